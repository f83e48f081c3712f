import JvmDerived
import JvmDerived.Pilot.@@N@@Statement
import JvmDerived.Pilot.@@N@@Code
set_option linter.unusedVariables false
set_option linter.unusedSimpArgs false
namespace Jvm.Pilot.@@N@@
open Jvm Jvm.ClassFile Sem Op Lib Jvm.Free Jvm.Stand Jvm.LawKit Jvm.RoadKit Bundle Jvm.Pilot.@@N@@.Jvm.D

section OwnKit
variable {p : Program} {l : Launch} {e : Env} {R : Room} {s : State} {m : MethodId} {args : Array Value} {below : List Frame} {meth : Method} {c : Code} {T : State} {locs : List Loc} {cells slots : Nat} {Z : State} {a0 : Array Value} {h : Heap} {kc ks : Nat} {Q : Option Value → Heap → List Loc → Prop}
/-- the run from F comes to the method's end, where Q holds -/
def OWp (p : Program) (e : Env) (below : List Frame) (s : State) (kc ks : Nat) (Q : Option Value → Heap → List Loc → Prop) (F : State) : Prop :=
  ∃ s₂ o, Steps p.tables e below F s₂ ∧ s₂.status = .running ∧ Ended s₂ below o ∧ ∃ v L, o = .returned v ∧ Q v s₂.heap L ∧ FrameEnd s o s₂ L kc ks
theorem own_st {F F' : State} (h : ∀ t, Steps p.tables e below F' t → Steps p.tables e below F t) (w : OWp p e below s kc ks Q F') : OWp p e below s kc ks Q F := by
  obtain ⟨s₂, o, h1, r⟩ := w
  exact ⟨s₂, o, h _ h1, r⟩
theorem own_fin (X : Stand p l e R s m args below meth c T locs cells slots) {F : State} (v : Option Value) (hv : meth.sig.returnType = none → v = none) (hlocks : meth.locks = false) (hk : cells ≤ kc) (hn : slots ≤ ks)
    (hst : ∀ fs, (∀ (f : JFrame) (acts : List Action), f.method = m → f.locked = none → f.entered = [] → (doReturn e (T.setTop f) acts v).1 = T.setFrames fs) → Steps p.tables e below F (T.setFrames fs))
    (hq : Q v T.heap locs) : OWp p e below s kc ks Q F := by
  obtain ⟨fs, hr, hrun, hended, hW, hsame⟩ := X.leave (v := v) hv hlocks
  exact ⟨_, _, hst fs hr, hrun, hended, v, locs, rfl, hq, ⟨_, rfl⟩, hW, hsame.mono hk hn⟩
theorem own_irem_mod (x y : Int32) : x - (x / y) * y = x % y := by
  apply Int32.toInt_inj.mp
  rw [Int32.toInt_sub, Int32.toInt_mul, Int32.toInt_div, Int32.toInt_mod, Int.bmod_mul_bmod, Int.sub_bmod_bmod, Int.mul_comm, ← Int.tmod_def]
  have a := (x % y).toInt_lt; have b := (x % y).le_toInt
  rw [Int32.toInt_mod] at a b
  exact Int.bmod_eq_of_le (by omega) (by omega)
theorem own_irem {tb : Tables} [Ours tb] {e : Env} {below : List Frame} {T target : State} {m : MethodId} {c : Code} {g : JFrame} (h : At T m c below) (hx : tb.exec = Jvm.exec) (hg : g.method = m) {x y : Int32} {rest : List Value} (hd : decode c.code g.pc = .ok (.irem, 1)) (hs : g.stack = .int y :: .int x :: rest) (hy : y ≠ 0)
    (hr : Steps tb e below (T.setTop { g with pc := g.pc + 1, stack := .int (x % y) :: rest }) target) : Steps tb e below (T.setTop g) target :=
  XS.irem h hx hg hd hs hy (by rw [own_irem_mod]; exact hr)
theorem own_callS (X : Stand p l e R s m args below meth c T locs cells slots) (hx : p.tables.exec = Jvm.exec) (hZ : Z.Warmed39 s.vm) {own : String} {index : Nat} {y : MethodName} {bytes : ByteArray} {maxL : Nat} {ret : Option FieldType} {rm : Room} {Qc : Option Value → Heap → List Loc → Prop} {as' : Array Value}
    (hown : s.vm.findClass own = some m.cls) (wl : (Jvm.Cond.methodLink own index y).before a0 Z = true) (wst : (Jvm.Cond.static y).before a0 Z = true) (wz : (Jvm.Cond.initialized y.cls).before a0 Z = true) (wc : (Jvm.Cond.code y bytes maxL ret).before a0 Z = true)
    (hM : MetFree l y (head1 [Jvm.Cond.code y bytes maxL ret] rm) (fun a U => a = as' ∧ Z.Warmed39 U.vm ∧ U.heap = h) (fun _ _ _ _ _ => True) (fun _ U o U' => ∃ v L, o = .returned v ∧ Qc v U'.heap L ∧ FrameEnd U o U' L rm.cells rm.slots))
    (hy : y.cls ≠ "java/lang/invoke/MethodHandle" ∧ y.cls ≠ "java/lang/invoke/VarHandle") {W pc : Nat} {Ls : Array Slot} {stk argsL rest : List Value} (hf : rm.frames + 1 ≤ R.frames) (hl : W + (maxL + 11) + rm.locals ≤ R.locals)
    (hsize : Ls.size = c.maxLocals) (hlen : ∀ sig, parseMethodDescriptor y.desc = some sig → argsL.length = sig.parameters.length) (hstk : stk = argsL.reverse ++ rest) (has : argsL.toArray = as') (hW : 2 * 0 + (rest.map fun v => v.category).sum ≤ W)
    (hdg : decode c.code pc = .ok (.invokestatic index, 3)) (eT : T.heap = h) (hc : cells + rm.cells ≤ R.cells) (hs : slots + rm.slots ≤ R.slots)
    (k : ∀ v T' L, Qc v T'.heap L → Stand p l e R s m args below meth c T' (locs ++ L) (cells + rm.cells) (slots + rm.slots) → OWp p e below s kc ks Q (T'.setTop (mkF m (pc + 3) Ls (v.toList ++ rest)))) :
    OWp p e below s kc ks Q (T.setTop (mkF m pc Ls stk)) := by
  obtain ⟨v, _, ⟨T', L', k', n'⟩, -, X', ⟨Lc, hQ, l1, y1, z1⟩, st⟩ := Jvm.LawKit.callS X hx (y := y) hown (mvT hZ wl) (mvT hZ wst) (mvT hZ wz) (mvT hZ wc) hy (backOf (W := W) hM hZ wc wz hf hl) (g := mkF m pc Ls stk) rfl hsize (argsL := argsL) (rest := rest) hlen hstk hW hdg (fun _ _ => ⟨has, eT, hc, hs⟩)
  dsimp only [Pt.U, Pt.locs, Pt.cells, Pt.slots] at X' l1 y1 z1 st hQ
  subst l1 y1 z1
  exact own_st st (k v T' Lc hQ X')
theorem own_init (X : Stand p l e R s m args below meth c T locs cells slots) (hx : p.tables.exec = Jvm.exec) (hZ : Z.Warmed39 s.vm) {own : String} {index : Nat} {y : MethodName} {bytes : ByteArray} {maxL : Nat} {rm : Room} {Qc : Option Value → Heap → List Loc → Prop} {as' : Array Value}
    (hown : s.vm.findClass own = some m.cls) (hy1 : y.name = "<init>") (wl : (Jvm.Cond.methodLink own index y).before a0 Z = true) (wi : (Jvm.Cond.instanceMethod y).before a0 Z = true) (wz : (Jvm.Cond.initialized y.cls).before a0 Z = true) (wc : (Jvm.Cond.code y bytes maxL none).before a0 Z = true)
    (hM : MetFree l y (head1 [Jvm.Cond.code y bytes maxL none] rm) (fun a U => a = as' ∧ Z.Warmed39 U.vm ∧ U.heap = h) (fun _ _ _ _ _ => True) (fun _ U o U' => ∃ v L, o = .returned v ∧ Qc v U'.heap L ∧ FrameEnd U o U' L rm.cells rm.slots))
    (hy : y.cls ≠ "java/lang/invoke/MethodHandle" ∧ y.cls ≠ "java/lang/invoke/VarHandle") {W pc : Nat} {Ls : Array Slot} {stk argsL rest : List Value} {a : Addr} (hf : rm.frames + 1 ≤ R.frames) (hl : W + (maxL + 11) + rm.locals ≤ R.locals)
    (hsize : Ls.size = c.maxLocals) (hlen : ∀ sig, parseMethodDescriptor y.desc = some sig → argsL.length = sig.parameters.length) (hstk : stk = argsL.reverse ++ .ref a :: rest) (has : (.ref a :: argsL).toArray = as') (hW : 2 * 0 + (rest.map fun v => v.category).sum ≤ W)
    (hdg : decode c.code pc = .ok (.invokespecial index, 3)) (eT : T.heap = h) (hc : cells + rm.cells ≤ R.cells) (hs : slots + rm.slots ≤ R.slots)
    (k : ∀ v T' L, Qc v T'.heap L → Stand p l e R s m args below meth c T' (locs ++ L) (cells + rm.cells) (slots + rm.slots) → OWp p e below s kc ks Q (T'.setTop (mkF m (pc + 3) Ls (v.toList ++ rest)))) :
    OWp p e below s kc ks Q (T.setTop (mkF m pc Ls stk)) := by
  obtain ⟨v, _, ⟨T', L', k', n'⟩, -, X', ⟨Lc, hQ, l1, y1, z1⟩, st⟩ := X.specialBack hx (y := y) hy1 hown (mvT hZ wl) (mvT hZ wi) (mvT hZ wc) hy (backOf (W := W) hM hZ wc wz hf hl) (g := mkF m pc Ls stk) rfl hsize (Steps.refl _) (a := a) (argsL := argsL) (rest := rest) hlen hstk hW hdg (fun _ _ => ⟨has, eT, hc, hs⟩)
  dsimp only [Pt.U, Pt.locs, Pt.cells, Pt.slots] at X' l1 y1 z1 st hQ
  subst l1 y1 z1
  exact own_st (fun t q => st.trans q) (k v T' Lc hQ X')
theorem own_virt (X : Stand p l e R s m args below meth c T locs cells slots) (hx : p.tables.exec = Jvm.exec) (hZ : Z.Warmed39 s.vm) {own C : String} {index : Nat} {y : MethodName} {bytes : ByteArray} {maxL : Nat} {ret : Option FieldType} {rm : Room} {Qc : Option Value → Heap → List Loc → Prop} {as' : Array Value} {a : Addr}
    (hown : s.vm.findClass own = some m.cls) (wl : (Jvm.Cond.methodLink own index y).before a0 Z = true) (wd : (Jvm.Cond.declares y).before a0 Z = true) (wsel : (Jvm.Cond.selects C y y).before a0 Z = true) (wi : (Jvm.Cond.instanceMethod y).before a0 Z = true) (wz : (Jvm.Cond.initialized y.cls).before a0 Z = true) (wc : (Jvm.Cond.code y bytes maxL ret).before a0 Z = true)
    (E : Exa Z h a C)
    (hM : MetFree l y (head1 [Jvm.Cond.code y bytes maxL ret] rm) (fun a U => a = as' ∧ Z.Warmed39 U.vm ∧ U.heap = h) (fun _ _ _ _ _ => True) (fun _ U o U' => ∃ v L, o = .returned v ∧ Qc v U'.heap L ∧ FrameEnd U o U' L rm.cells rm.slots))
    (hy : y.cls ≠ "java/lang/invoke/MethodHandle" ∧ y.cls ≠ "java/lang/invoke/VarHandle") {W pc : Nat} {Ls : Array Slot} {stk argsL rest : List Value} (hf : rm.frames + 1 ≤ R.frames) (hl : W + (maxL + 11) + rm.locals ≤ R.locals)
    (hsize : Ls.size = c.maxLocals) (hlen : ∀ sig, parseMethodDescriptor y.desc = some sig → argsL.length = sig.parameters.length) (hstk : stk = argsL.reverse ++ .ref a :: rest) (has : (.ref a :: argsL).toArray = as') (hW : 2 * 0 + (rest.map fun v => v.category).sum ≤ W)
    (hdg : decode c.code pc = .ok (.invokevirtual index, 3)) (eT : T.heap = h) (hc : cells + rm.cells ≤ R.cells) (hs : slots + rm.slots ≤ R.slots)
    (k : ∀ v T' L, Qc v T'.heap L → Stand p l e R s m args below meth c T' (locs ++ L) (cells + rm.cells) (slots + rm.slots) → OWp p e below s kc ks Q (T'.setTop (mkF m (pc + 3) Ls (v.toList ++ rest)))) :
    OWp p e below s kc ks Q (T.setTop (mkF m pc Ls stk)) := by
  obtain ⟨cq, kq, qa, qb, qc⟩ := isOf hZ eT E
  obtain ⟨v, _, ⟨T', L', k', n'⟩, -, X', ⟨Lc, hQ, l1, y1, z1⟩, st⟩ := X.virtualBack hx (y := y) (z := y) hown (mvT hZ wl) (mvT hZ wd) (notFace_of_selects (args := #[]) (mvT hZ wsel)) (mvT hZ wsel) (mvT hZ wi) hy (backOf (W := W) hM hZ wc wz hf hl) qa qc (g := mkF m pc Ls stk) rfl hsize (Steps.refl _) (argsL := argsL) (rest := rest) hlen hstk hW hdg (fun _ _ => ⟨has, eT, hc, hs⟩)
  dsimp only [Pt.U, Pt.locs, Pt.cells, Pt.slots] at X' l1 y1 z1 st hQ
  subst l1 y1 z1
  exact own_st (fun t q => st.trans q) (k v T' Lc hQ X')
theorem own_len (X : Stand p l e R s m args below meth c T locs cells slots) (hx : p.tables.exec = Jvm.exec) (hZ : Z.Warmed39 s.vm) (eT : T.heap = h) {a : Addr} {k : ClassId} {ty : FieldType} {n : Int32} {vs : List Value} {dv : Value} (A : Arv Z h a k ty n vs dv)
    {pc : Nat} {Ls : Array Slot} {rest : List Value} (hd : decode c.code pc = .ok (.arraylength, 1)) :
    ∀ t, Steps p.tables e below (T.setTop (mkF m (pc + 1) Ls (.int n :: rest))) t → Steps p.tables e below (T.setTop (mkF m pc Ls (.ref a :: rest))) t := fun t q => by
  obtain ⟨cl, Ar, -, hS, hN, -, -⟩ := A
  refine X.arraylength hx (by rw [eT]; exact Ar.1) (State.isArrayOf_alike hZ.alike Ar.2.1) (g := mkF m pc Ls (.ref a :: rest)) rfl rfl hd _ ?_
  rw [len_of hS hN]; exact q
theorem own_ild (X : Stand p l e R s m args below meth c T locs cells slots) (hx : p.tables.exec = Jvm.exec) (hZ : Z.Warmed39 s.vm) (eT : T.heap = h) {a : Addr} {k : ClassId} {n : Int32} {vs : List Value} {dv : Value} (A : Arv Z h a k .int n vs dv)
    {pc : Nat} {Ls : Array Slot} {rest : List Value} {j w : Int32} (h0 : ¬ j < 0) (hlt : j < n) (hv : vs.getD j.toNatClampNeg dv = .int w) (hd : decode c.code pc = .ok (.iaload, 1)) :
    ∀ t, Steps p.tables e below (T.setTop (mkF m (pc + 1) Ls (.int w :: rest))) t → Steps p.tables e below (T.setTop (mkF m pc Ls (.int j :: .ref a :: rest))) t := fun t q => by
  obtain ⟨cl, Ar, -, hS, hN, H, -⟩ := A
  have hin := inb_of hS ⟨h0, hlt⟩
  exact X.iaload hx (j := j) (v := .int w) (by rw [eT]; exact Ar.1) (State.isArrayOf_alike hZ.alike Ar.2.1) Ar.2.2 hin (by rw [H _ (Nat.lt_of_not_le fun q => hin (Or.inr q)), hv]) (g := mkF m pc Ls (.int j :: .ref a :: rest)) rfl rfl hd _ q
theorem own_elt {a : Addr} {k : ClassId} {n : Int32} {vs : List Value} {dv : Value} (A : Arv Z h a k .int n vs dv) {j : Int32} (h0 : ¬ j < 0) (hlt : j < n) : ∃ w : Int32, vs.getD j.toNatClampNeg dv = .int w := by
  obtain ⟨cl, Ar, -, hS, hN, H, G⟩ := A
  have hin := inb_of hS ⟨h0, hlt⟩
  have g := G _ (Nat.lt_of_not_le fun q => hin (Or.inr q))
  cases hv : vs.getD j.toNatClampNeg dv <;> rw [hv] at g <;> first | exact ⟨_, rfl⟩ | cases g
theorem own_ist (X : Stand p l e R s m args below meth c T locs cells slots) (hx : p.tables.exec = Jvm.exec) (hZ : Z.Warmed39 s.vm) (eT : T.heap = h) {a : Addr} {k : ClassId} {n : Int32} {vs : List Value} {dv : Value} (A : Arv Z h a k .int n vs dv)
    {pc : Nat} {Ls : Array Slot} {rest : List Value} {j x : Int32} (i : Nat) (hj : j.toNatClampNeg = i) (h0 : ¬ j < 0) (hlt : j < n) (hi : i < vs.length) (hd : decode c.code pc = .ok (.iastore, 1)) :
    ∃ T' h', Stand p l e R s m args below meth c T' (locs ++ [⟨a, j.toNatClampNeg⟩]) cells slots ∧ T'.heap = h' ∧ Wr h h' a j.toNatClampNeg (.int x) ∧ Arv Z h' a k .int n (vs.set i (.int x)) dv ∧
      ∀ t, Steps p.tables e below (T'.setTop (mkF m (pc + 1) Ls rest)) t → Steps p.tables e below (T.setTop (mkF m pc Ls (.int x :: .int j :: .ref a :: rest))) t := by
  obtain ⟨cl, Ar, q1, hS, hN, H, G⟩ := A
  obtain ⟨T', h', X', e', W', st⟩ := stI X hx hZ eT Ar (j := j) (x := x) (inb_of hS ⟨h0, hlt⟩) (g := mkF m pc Ls (.int x :: .int j :: .ref a :: rest)) rfl rfl hd
  exact ⟨T', h', X', e', W', Arv.set Ar q1 hS hN H G rfl W' i hj hi, st⟩
theorem own_ald (X : Stand p l e R s m args below meth c T locs cells slots) (hx : p.tables.exec = Jvm.exec) (hZ : Z.Warmed39 s.vm) (eT : T.heap = h) {a : Addr} {k : ClassId} {C : String} {n : Int32} {vs : List Value} {dv : Value} (A : Arv Z h a k (.object C) n vs dv)
    {pc : Nat} {Ls : Array Slot} {rest : List Value} {j : Int32} {w : Addr} (h0 : ¬ j < 0) (hlt : j < n) (hv : vs.getD j.toNatClampNeg dv = .ref w) (hd : decode c.code pc = .ok (.aaload, 1)) :
    ∀ t, Steps p.tables e below (T.setTop (mkF m (pc + 1) Ls (.ref w :: rest))) t → Steps p.tables e below (T.setTop (mkF m pc Ls (.int j :: .ref a :: rest))) t := fun t q => by
  obtain ⟨cl, Ar, -, hS, hN, H, -⟩ := A
  have hin := inb_of hS ⟨h0, hlt⟩
  exact X.aaload hx (j := j) (v := .ref w) (by rw [eT]; exact Ar.1) (State.isArrayOf_alike hZ.alike Ar.2.1) rfl Ar.2.2 hin (by rw [H _ (Nat.lt_of_not_le fun q => hin (Or.inr q)), hv]) (g := mkF m pc Ls (.int j :: .ref a :: rest)) rfl rfl hd _ q
theorem own_ast (X : Stand p l e R s m args below meth c T locs cells slots) (hx : p.tables.exec = Jvm.exec) (hZ : Z.Warmed39 s.vm) (eT : T.heap = h) {a : Addr} {k : ClassId} {C : String} {n : Int32} {vs : List Value} {dv : Value} (A : Arv Z h a k (.object C) n vs dv) (O : Ovr Z k C) {y : Addr} (I : Ins Z h y C true)
    {pc : Nat} {Ls : Array Slot} {rest : List Value} {j : Int32} (i : Nat) (hj : j.toNatClampNeg = i) (h0 : ¬ j < 0) (hlt : j < n) (hi : i < vs.length) (hd : decode c.code pc = .ok (.aastore, 1)) :
    ∃ T' h', Stand p l e R s m args below meth c T' (locs ++ [⟨a, j.toNatClampNeg⟩]) cells slots ∧ T'.heap = h' ∧ Wr h h' a j.toNatClampNeg (.ref y) ∧ Arv Z h' a k (.object C) n (vs.set i (.ref y)) dv ∧
      ∀ t, Steps p.tables e below (T'.setTop (mkF m (pc + 1) Ls rest)) t → Steps p.tables e below (T.setTop (mkF m pc Ls (.ref y :: .int j :: .ref a :: rest))) t := by
  obtain ⟨cl, Ar, q1, hS, hN, H, G⟩ := A
  obtain ⟨T', h', X', e', W', st⟩ := stR X hx hZ eT Ar (j := j) (v := .ref y) (inb_of hS ⟨h0, hlt⟩) rfl (Sto.of Ar (q1 ▸ O) I) (g := mkF m pc Ls (.ref y :: .int j :: .ref a :: rest)) rfl rfl hd
  exact ⟨T', h', X', e', W', Arv.set Ar q1 hS hN H G rfl W' i hj hi, st⟩
theorem own_kext {h h' : Heap} (K : Keep h h' []) : Ext h h' := ⟨K.1, fun a c q => K.2.1 a c q (by simp)⟩
end OwnKit

def OInts (Z : State) (h : Heap) (a b : Addr) (kb : ClassId) (k : Int32) (vs : List Value) : Prop :=
  Exa Z h a "com/example/coarsen/coarsen/service/Ints" ∧ Fld Z h a "com/example/coarsen/coarsen/service/Ints" "values" "[I" (.ref b) ∧ Fld Z h a "com/example/coarsen/coarsen/service/Ints" "size" "I" (.int k) ∧ Arv Z h b kb .int 16 vs (.int (0 : Int32)) ∧ vs.length = 16
theorem own_n (p : Int32) : (1 : Int32) + ((p &&& (2147483647 : Int32)) % (3 : Int32)) = 1 ∨ (1 : Int32) + ((p &&& (2147483647 : Int32)) % (3 : Int32)) = 2 ∨ (1 : Int32) + ((p &&& (2147483647 : Int32)) % (3 : Int32)) = 3 := by
  have h1 := c_mask p 2147483647 31 (by decide) (by decide)
  have h2 := (c_irem (p &&& (2147483647 : Int32)) 3 3 (by decide)).1 (by rw [h1]; omega)
  have h3 := c_iadd 1 ((p &&& (2147483647 : Int32)) % (3 : Int32))
  have h4 := rng32 ((1 : Int32) + ((p &&& (2147483647 : Int32)) % (3 : Int32)))
  simp only [← Int32.toInt_inj, Int32.reduceToInt] at *
  omega
theorem own_lt16 {k : Int32} (h0 : ¬ k < 0) (h1 : k < 16) : k.toNatClampNeg < 16 := by
  simp only [Int32.lt_iff_toInt_lt, Int32.reduceToInt] at h0 h1
  show k.toInt.toNat < 16
  omega

theorem own_pd0 : parseMethodDescriptor "()V" = some ⟨[], none⟩ := by decide +kernel
theorem own_pd1 : parseMethodDescriptor "(I)I" = some ⟨[.int], some .int⟩ := by decide +kernel
theorem own_pd2 : parseMethodDescriptor "()I" = some ⟨[], some .int⟩ := by decide +kernel
theorem d1_0 : decode prog_48_method_1_code 0 = .ok (.aload_n 0, 1) := by decide +kernel
theorem d1_1 : decode prog_48_method_1_code 1 = .ok (.invokespecial 1, 3) := by decide +kernel
theorem d1_4 : decode prog_48_method_1_code 4 = .ok (.aload_n 0, 1) := by decide +kernel
theorem d1_5 : decode prog_48_method_1_code 5 = .ok (.bipush 16, 2) := by decide +kernel
theorem d1_7 : decode prog_48_method_1_code 7 = .ok (.newarray .int, 2) := by decide +kernel
theorem d1_9 : decode prog_48_method_1_code 9 = .ok (.putfield 7, 3) := by decide +kernel
theorem d1_12 : decode prog_48_method_1_code 12 = .ok (.return_, 1) := by decide +kernel
def Q1 (Z : State) (a1 : Addr) (h0 : Heap) (n0 : Nat) (v : Option Value) (h : Heap) (L : List Loc) : Prop := v = none ∧ Fr n0 L ∧ h0.size ≤ h.size ∧ ∃ b kb, n0 ≤ b ∧ OInts Z h a1 b kb (0 : Int32) [(.int (0 : Int32)), (.int (0 : Int32)), (.int (0 : Int32)), (.int (0 : Int32)), (.int (0 : Int32)), (.int (0 : Int32)), (.int (0 : Int32)), (.int (0 : Int32)), (.int (0 : Int32)), (.int (0 : Int32)), (.int (0 : Int32)), (.int (0 : Int32)), (.int (0 : Int32)), (.int (0 : Int32)), (.int (0 : Int32)), (.int (0 : Int32))]
theorem ef_1 (m : MethodId) (x0 : Addr) : entryFrame m #[(.ref x0)] 1 = mkF m 0 #[.val (.ref x0)] [] := by first | (simp [entryFrame, mkF, argsToLocals, Value.category]; done) | rfl
theorem pn_1 : plainName "com/example/coarsen/coarsen/service/Ints" = true := by first | (simp [plainName, overriddenIn]; done) | decide +kernel
set_option maxRecDepth 65536 in
set_option maxHeartbeats 40000000 in
theorem rm1 (l : Launch) (Z : State) (a0 : Array Value) (hw : ∀ d ∈ tables_1, d.before a0 Z = true) (ws : List Jvm.Cond) (a1 : Addr) (u : Value) (h0 : Heap) (n0 : Nat) (Z0 : n0 ≤ h0.size) (E_a : Exa Z h0 a1 "com/example/coarsen/coarsen/service/Ints") (Fv_a : Fld Z h0 a1 "com/example/coarsen/coarsen/service/Ints" "values" "[I" u) (Fs_a : Fld Z h0 a1 "com/example/coarsen/coarsen/service/Ints" "size" "I" (.int (0 : Int32))) (g_a : n0 ≤ a1) :
    MetFree l (⟨"com/example/coarsen/coarsen/service/Ints", "<init>", "()V"⟩ : MethodName) (head1 (Jvm.Cond.code (⟨"com/example/coarsen/coarsen/service/Ints", "<init>", "()V"⟩ : MethodName) prog_48_method_1_code 1 none :: ws) ({ frames := 1, cells := 1, slots := 16, locals := 12 } : Room)) (fun a U => a = #[(.ref a1)] ∧ Z.Warmed39 U.vm ∧ U.heap = h0) (fun _ _ _ _ _ => True) (fun _ U o U' => ∃ v L, o = .returned v ∧ Q1 Z a1 h0 n0 v U'.heap L ∧ FrameEnd U o U' L ({ frames := 1, cells := 1, slots := 16, locals := 12 } : Room).cells ({ frames := 1, cells := 1, slots := 16, locals := 12 } : Room).slots) := by
  refine MetFree.of_bodySF (plainFor_of_name pn_1) hisR ?_
  intro p e s m args below meth c s₁ Bd hml0 hP hK
  obtain ⟨rfl, hZ, hh⟩ := hP
  have hx := Bd.exec
  have hby := Bd.bytes
  have hml : c.maxLocals = 1 := hml0
  have hown : s.vm.findClass "com/example/coarsen/coarsen/service/Ints" = some m.cls := findClass_of_methodNamed Bd.named
  have hnm := (name_of_methodNamed Bd.named Bd.method).1
  have X0 : Stand p l e ({ frames := 1, cells := 1, slots := 16, locals := 12 } : Room) s m #[(.ref a1)] below meth c s₁ [] 0 0 := Stand.of_body Bd
  have e0 : s₁.heap = h0 := by rw [← hh, Bd.state]; rfl
  have N0 := Fr.nil n0
  suffices hgoal : OWp p e below s ({ frames := 1, cells := 1, slots := 16, locals := 12 } : Room).cells ({ frames := 1, cells := 1, slots := 16, locals := 12 } : Room).slots (Q1 Z a1 h0 n0) (s₁.setTop (mkF m 0 #[.val (.ref a1)] [])) by
    rw [← ef_1] at hgoal; exact hgoal
  refine own_st (F' := s₁.setTop (mkF m 1 #[.val (.ref a1)] [(.ref a1)])) (fun t_ kk => XS.aloadN X0.here hx rfl (hb hby d1_0) rfl rfl kk) ?_
  obtain ⟨T1, X1, e1, st1⟩ := initO X0 hx hZ hown (hw _ (List.mem_of_getElem? (i := 7) rfl)) (hw _ (List.mem_of_getElem? (i := 8) rfl)) (hw _ (List.mem_of_getElem? (i := 9) rfl)) e0 (g := (mkF m 1 #[.val (.ref a1)] [(.ref a1)])) rfl (by rw [hml]; rfl) rfl (hb hby d1_1) (by decide) (W := 0) (by show 2 * 0 + _ ≤ _; exact Nat.le_of_eq rfl) (by decide)
  refine own_st (F' := T1.setTop (mkF m 4 #[.val (.ref a1)] [])) st1 ?_
  refine own_st (F' := T1.setTop (mkF m 5 #[.val (.ref a1)] [(.ref a1)])) (fun t_ kk => XS.aloadN X1.here hx rfl (hb hby d1_4) rfl rfl kk) ?_
  refine own_st (F' := T1.setTop (mkF m 7 #[.val (.ref a1)] [(.int (16 : Int32)), (.ref a1)])) (fun t_ kk => XS.bipush X1.here hx rfl (hb hby d1_5) kk) ?_
  obtain ⟨T2, h2, k2, X2, e2, E2, A2, st2⟩ := newP X1 hx hZ (hw _ (List.mem_of_getElem? (i := 10) rfl)) e1 (g := (mkF m 7 #[.val (.ref a1)] [(.int (16 : Int32)), (.ref a1)])) rfl (hb hby d1_7) rfl (by decide) (cap := 16) (by decide) (by decide) (by decide) (by decide)
  obtain ⟨b2, g2⟩ : ∃ z, z = h0.size := ⟨_, rfl⟩
  rw [← g2] at A2 st2
  have g_b2 : n0 ≤ b2 := Nat.le_trans Z0 (Nat.le_of_eq g2.symm)
  have sz_b2 : h0.size ≤ b2 := Nat.le_trans (Keep.refl h0 [a1]).1 (Nat.le_of_eq g2.symm)
  have ne_a1_b2 : a1 ≠ b2 := Nat.ne_of_lt (Nat.lt_of_lt_of_le E_a.lt (Nat.le_of_eq g2.symm))
  have f3 := E_a.ext E2
  have f4 := Fv_a.ext E2
  have f5 := Fs_a.ext E2
  have V2 : Arv Z h2 b2 k2 .int (16 : Int32) [(.int (0 : Int32)), (.int (0 : Int32)), (.int (0 : Int32)), (.int (0 : Int32)), (.int (0 : Int32)), (.int (0 : Int32)), (.int (0 : Int32)), (.int (0 : Int32)), (.int (0 : Int32)), (.int (0 : Int32)), (.int (0 : Int32)), (.int (0 : Int32)), (.int (0 : Int32)), (.int (0 : Int32)), (.int (0 : Int32)), (.int (0 : Int32))] (.int (0 : Int32)) := (Arv.new A2 (by decide)).pad (pad_rep [] (.int (0 : Int32)) 16)
  have K6 := Keep.ext (Keep.refl h0 [a1]) E2
  have Z7 := Nat.le_trans Z0 E2.1
  refine own_st (F' := T2.setTop (mkF m 9 #[.val (.ref a1)] [(.ref b2), (.ref a1)])) st2 ?_
  obtain ⟨T8, h8, X8, e8, W8, st8⟩ := putF X2 hx hZ hown (host := "") (Or.inl (hw _ (List.mem_of_getElem? (i := 11) rfl))) Via.refl e2 f4 f3 (Or.inl (hw _ (List.mem_of_getElem? (i := 12) rfl))) (hw _ (List.mem_of_getElem? (i := 2) rfl)) (ty := (.array .int)) (by decide) rfl rfl (g := (mkF m 9 #[.val (.ref a1)] [(.ref b2), (.ref a1)])) rfl rfl (hb hby d1_9)
  have f9 := f3.wr W8
  have f10 := f4.same W8
  have f11 := f5.other W8 (Or.inr (slot_ne (Or.inl (hw _ (List.mem_of_getElem? (i := 19) rfl))) (Or.inl (hw _ (List.mem_of_getElem? (i := 12) rfl))) (by decide) (t := .int) (t' := (.array .int)) (by decide) (by decide)))
  have f12 := V2.other W8 (Ne.symm ne_a1_b2)
  have K13 := Keep.wr K6 W8 (Or.inl (List.mem_of_getElem? (i := 0) rfl))
  have Z14 := Nat.le_trans Z7 (Keep.of_wr W8).1
  have N15 := Fr.snoc X8 N0 g_a
  refine own_st (F' := T8.setTop (mkF m 12 #[.val (.ref a1)] [])) st8 ?_
  refine own_fin X8 none (fun _ => rfl) Bd.notSynchronized (by decide) (by decide) (fun fs hr => X8.returnOut hx Bd.returns (hb hby d1_12) hr) ?_
  rw [e8]
  exact ⟨rfl, N15, K13.1, b2, _, g_b2, ⟨f9, f10, f11, f12, rfl⟩⟩
theorem d3_0 : decode prog_48_method_2_code 0 = .ok (.aload_n 0, 1) := by decide +kernel
theorem d3_1 : decode prog_48_method_2_code 1 = .ok (.getfield 13, 3) := by decide +kernel
theorem d3_4 : decode prog_48_method_2_code 4 = .ok (.aload_n 0, 1) := by decide +kernel
theorem d3_5 : decode prog_48_method_2_code 5 = .ok (.getfield 7, 3) := by decide +kernel
theorem d3_8 : decode prog_48_method_2_code 8 = .ok (.arraylength, 1) := by decide +kernel
theorem d3_9 : decode prog_48_method_2_code 9 = .ok (.if_icmp .ne 20, 3) := by decide +kernel
theorem d3_29 : decode prog_48_method_2_code 29 = .ok (.aload_n 0, 1) := by decide +kernel
theorem d3_30 : decode prog_48_method_2_code 30 = .ok (.getfield 7, 3) := by decide +kernel
theorem d3_33 : decode prog_48_method_2_code 33 = .ok (.aload_n 0, 1) := by decide +kernel
theorem d3_34 : decode prog_48_method_2_code 34 = .ok (.getfield 13, 3) := by decide +kernel
theorem d3_37 : decode prog_48_method_2_code 37 = .ok (.iload_n 1, 1) := by decide +kernel
theorem d3_38 : decode prog_48_method_2_code 38 = .ok (.iastore, 1) := by decide +kernel
theorem d3_39 : decode prog_48_method_2_code 39 = .ok (.aload_n 0, 1) := by decide +kernel
theorem d3_40 : decode prog_48_method_2_code 40 = .ok (.dup, 1) := by decide +kernel
theorem d3_41 : decode prog_48_method_2_code 41 = .ok (.getfield 13, 3) := by decide +kernel
theorem d3_44 : decode prog_48_method_2_code 44 = .ok (.dup_x1, 1) := by decide +kernel
theorem d3_45 : decode prog_48_method_2_code 45 = .ok (.iconst 1, 1) := by decide +kernel
theorem d3_46 : decode prog_48_method_2_code 46 = .ok (.iadd, 1) := by decide +kernel
theorem d3_47 : decode prog_48_method_2_code 47 = .ok (.putfield 13, 3) := by decide +kernel
theorem d3_50 : decode prog_48_method_2_code 50 = .ok (.ireturn, 1) := by decide +kernel
def Q3 (Z : State) (a1 b : Addr) (kb : ClassId) (k : Int32) (vs : List Value) (z : Int32) (i : Nat) (h0 : Heap) (n0 : Nat) (v : Option Value) (h : Heap) (L : List Loc) : Prop := v = some (.int k) ∧ Fr n0 L ∧ h0.size ≤ h.size ∧ OInts Z h a1 b kb (k + (1 : Int32)) (vs.set i (.int z))
theorem ef_3 (m : MethodId) (x0 : Addr) (x1 : Int32) : entryFrame m #[(.ref x0), (.int x1)] 2 = mkF m 0 #[.val (.ref x0), .val (.int x1)] [] := by first | (simp [entryFrame, mkF, argsToLocals, Value.category]; done) | rfl
theorem pn_3 : plainName "com/example/coarsen/coarsen/service/Ints" = true := by first | (simp [plainName, overriddenIn]; done) | decide +kernel
set_option maxRecDepth 65536 in
set_option maxHeartbeats 40000000 in
theorem rm3 (l : Launch) (Z : State) (a0 : Array Value) (hw : ∀ d ∈ tables_1, d.before a0 Z = true) (ws : List Jvm.Cond) (a1 b : Addr) (kb : ClassId) (k : Int32) (vs : List Value) (z : Int32) (i : Nat) (h0 : Heap) (n0 : Nat) (Z0 : n0 ≤ h0.size) (I : OInts Z h0 a1 b kb k vs) (g_a : n0 ≤ a1) (g_b : n0 ≤ b) (hi : k.toNatClampNeg = i) (hk0 : ¬ k < 0) (hk1 : k < 16) :
    MetFree l (⟨"com/example/coarsen/coarsen/service/Ints", "add", "(I)I"⟩ : MethodName) (head1 (Jvm.Cond.code (⟨"com/example/coarsen/coarsen/service/Ints", "add", "(I)I"⟩ : MethodName) prog_48_method_2_code 2 (some .int) :: ws) ({ frames := 0, cells := 0, slots := 0, locals := 0 } : Room)) (fun a U => a = #[(.ref a1), (.int z)] ∧ Z.Warmed39 U.vm ∧ U.heap = h0) (fun _ _ _ _ _ => True) (fun _ U o U' => ∃ v L, o = .returned v ∧ Q3 Z a1 b kb k vs z i h0 n0 v U'.heap L ∧ FrameEnd U o U' L ({ frames := 0, cells := 0, slots := 0, locals := 0 } : Room).cells ({ frames := 0, cells := 0, slots := 0, locals := 0 } : Room).slots) := by
  refine MetFree.of_bodySF (plainFor_of_name pn_3) hisR ?_
  intro p e s m args below meth c s₁ Bd hml0 hP hK
  obtain ⟨rfl, hZ, hh⟩ := hP
  have hx := Bd.exec
  have hby := Bd.bytes
  have hml : c.maxLocals = 2 := hml0
  have hown : s.vm.findClass "com/example/coarsen/coarsen/service/Ints" = some m.cls := findClass_of_methodNamed Bd.named
  have hnm := (name_of_methodNamed Bd.named Bd.method).1
  have X0 : Stand p l e ({ frames := 0, cells := 0, slots := 0, locals := 0 } : Room) s m #[(.ref a1), (.int z)] below meth c s₁ [] 0 0 := Stand.of_body Bd
  have e0 : s₁.heap = h0 := by rw [← hh, Bd.state]; rfl
  have N0 := Fr.nil n0
  suffices hgoal : OWp p e below s ({ frames := 0, cells := 0, slots := 0, locals := 0 } : Room).cells ({ frames := 0, cells := 0, slots := 0, locals := 0 } : Room).slots (Q3 Z a1 b kb k vs z i h0 n0) (s₁.setTop (mkF m 0 #[.val (.ref a1), .val (.int z)] [])) by
    rw [← ef_3] at hgoal; exact hgoal
  obtain ⟨E_a, Fv_a, Fs_a, V_b, hl⟩ := I
  have ne_ab : a1 ≠ b := by obtain ⟨_, Ar, -⟩ := V_b; exact ne_arr E_a (hw _ (List.mem_of_getElem? (i := 2) rfl)) Ar
  refine own_st (F' := s₁.setTop (mkF m 1 #[.val (.ref a1), .val (.int z)] [(.ref a1)])) (fun t_ kk => XS.aloadN X0.here hx rfl (hb hby d3_0) rfl rfl kk) ?_
  obtain ⟨T1, X1, e1, st1⟩ := getF X0 hx hZ hown (host := "") (Or.inl (hw _ (List.mem_of_getElem? (i := 18) rfl))) Via.refl e0 Fs_a (g := (mkF m 1 #[.val (.ref a1), .val (.int z)] [(.ref a1)])) rfl rfl (hb hby d3_1)
  refine own_st (F' := T1.setTop (mkF m 4 #[.val (.ref a1), .val (.int z)] [(.int k)])) st1 ?_
  refine own_st (F' := T1.setTop (mkF m 5 #[.val (.ref a1), .val (.int z)] [(.ref a1), (.int k)])) (fun t_ kk => XS.aloadN X1.here hx rfl (hb hby d3_4) rfl rfl kk) ?_
  obtain ⟨T2, X2, e2, st2⟩ := getF X1 hx hZ hown (host := "") (Or.inl (hw _ (List.mem_of_getElem? (i := 11) rfl))) Via.refl e1 Fv_a (g := (mkF m 5 #[.val (.ref a1), .val (.int z)] [(.ref a1), (.int k)])) rfl rfl (hb hby d3_5)
  refine own_st (F' := T2.setTop (mkF m 8 #[.val (.ref a1), .val (.int z)] [(.ref b), (.int k)])) st2 ?_
  refine own_st (F' := T2.setTop (mkF m 9 #[.val (.ref a1), .val (.int z)] [(.int (16 : Int32)), (.int k)])) (own_len X2 hx hZ e2 V_b (hb hby d3_8)) ?_
  refine own_st (F' := T2.setTop (mkF m 29 #[.val (.ref a1), .val (.int z)] [])) (fun t_ kk => XS.icmpYes X2.here hx rfl (pc0 := 9) (pc' := 29) rfl (hb hby d3_9) rfl (feq (fun q => absurd hk1 (by rw [q]; decide) : ¬ (k = (16 : Int32)))).2 (by decide) (by decide) kk) ?_
  refine own_st (F' := T2.setTop (mkF m 30 #[.val (.ref a1), .val (.int z)] [(.ref a1)])) (fun t_ kk => XS.aloadN X2.here hx rfl (hb hby d3_29) rfl rfl kk) ?_
  obtain ⟨T3, X3, e3, st3⟩ := getF X2 hx hZ hown (host := "") (Or.inl (hw _ (List.mem_of_getElem? (i := 11) rfl))) Via.refl e2 Fv_a (g := (mkF m 30 #[.val (.ref a1), .val (.int z)] [(.ref a1)])) rfl rfl (hb hby d3_30)
  refine own_st (F' := T3.setTop (mkF m 33 #[.val (.ref a1), .val (.int z)] [(.ref b)])) st3 ?_
  refine own_st (F' := T3.setTop (mkF m 34 #[.val (.ref a1), .val (.int z)] [(.ref a1), (.ref b)])) (fun t_ kk => XS.aloadN X3.here hx rfl (hb hby d3_33) rfl rfl kk) ?_
  obtain ⟨T4, X4, e4, st4⟩ := getF X3 hx hZ hown (host := "") (Or.inl (hw _ (List.mem_of_getElem? (i := 18) rfl))) Via.refl e3 Fs_a (g := (mkF m 34 #[.val (.ref a1), .val (.int z)] [(.ref a1), (.ref b)])) rfl rfl (hb hby d3_34)
  refine own_st (F' := T4.setTop (mkF m 37 #[.val (.ref a1), .val (.int z)] [(.int k), (.ref b)])) st4 ?_
  refine own_st (F' := T4.setTop (mkF m 38 #[.val (.ref a1), .val (.int z)] [(.int z), (.int k), (.ref b)])) (fun t_ kk => XS.iloadN X4.here hx rfl (hb hby d3_37) rfl kk) ?_
  obtain ⟨T5, h5, X5, e5, W5, A5, st5⟩ := own_ist X4 hx hZ e4 V_b (pc := 38) (Ls := #[.val (.ref a1), .val (.int z)]) (rest := []) (j := k) (x := z) i hi hk0 hk1 (by rw [hl, ← hi]; exact own_lt16 hk0 hk1) (hb hby d3_38)
  have f6 := E_a.wr W5
  have f7 := Fv_a.other W5 (Or.inl ne_ab)
  have f8 := Fs_a.other W5 (Or.inl ne_ab)
  have K10 := Keep.wr (Keep.refl h0 [a1, b]) W5 (Or.inl (List.mem_of_getElem? (i := 1) rfl))
  have Z11 := Nat.le_trans Z0 (Keep.of_wr W5).1
  have N12 := Fr.snoc X5 N0 g_b
  refine own_st (F' := T5.setTop (mkF m 39 #[.val (.ref a1), .val (.int z)] [])) st5 ?_
  refine own_st (F' := T5.setTop (mkF m 40 #[.val (.ref a1), .val (.int z)] [(.ref a1)])) (fun t_ kk => XS.aloadN X5.here hx rfl (hb hby d3_39) rfl rfl kk) ?_
  refine own_st (F' := T5.setTop (mkF m 41 #[.val (.ref a1), .val (.int z)] [(.ref a1), (.ref a1)])) (fun t_ kk => XS.dup X5.here hx rfl (hb hby d3_40) rfl rfl kk) ?_
  obtain ⟨T13, X13, e13, st13⟩ := getF X5 hx hZ hown (host := "") (Or.inl (hw _ (List.mem_of_getElem? (i := 18) rfl))) Via.refl e5 f8 (g := (mkF m 41 #[.val (.ref a1), .val (.int z)] [(.ref a1), (.ref a1)])) rfl rfl (hb hby d3_41)
  refine own_st (F' := T13.setTop (mkF m 44 #[.val (.ref a1), .val (.int z)] [(.int k), (.ref a1)])) st13 ?_
  refine own_st (F' := T13.setTop (mkF m 45 #[.val (.ref a1), .val (.int z)] [(.int k), (.ref a1), (.int k)])) (fun t_ kk => XS.dupX1 X13.here hx rfl (hb hby d3_44) rfl rfl rfl kk) ?_
  refine own_st (F' := T13.setTop (mkF m 46 #[.val (.ref a1), .val (.int z)] [(.int (1 : Int32)), (.int k), (.ref a1), (.int k)])) (fun t_ kk => XS.iconst X13.here hx rfl (hb hby d3_45) kk) ?_
  refine own_st (F' := T13.setTop (mkF m 47 #[.val (.ref a1), .val (.int z)] [(.int (k + (1 : Int32))), (.ref a1), (.int k)])) (fun t_ kk => XS.iadd X13.here hx rfl (hb hby d3_46) rfl kk) ?_
  obtain ⟨T14, h14, X14, e14, W14, st14⟩ := putF X13 hx hZ hown (host := "") (Or.inl (hw _ (List.mem_of_getElem? (i := 18) rfl))) Via.refl e13 f8 f6 (Or.inl (hw _ (List.mem_of_getElem? (i := 19) rfl))) (hw _ (List.mem_of_getElem? (i := 2) rfl)) (ty := .int) (by decide) rfl rfl (g := (mkF m 47 #[.val (.ref a1), .val (.int z)] [(.int (k + (1 : Int32))), (.ref a1), (.int k)])) rfl rfl (hb hby d3_47)
  have f15 := f6.wr W14
  have f16 := f7.other W14 (Or.inr (slot_ne (Or.inl (hw _ (List.mem_of_getElem? (i := 12) rfl))) (Or.inl (hw _ (List.mem_of_getElem? (i := 19) rfl))) (by decide) (t := (.array .int)) (t' := .int) (by decide) (by decide)))
  have f17 := f8.same W14
  have f18 := A5.other W14 (Ne.symm ne_ab)
  have K19 := Keep.wr K10 W14 (Or.inl (List.mem_of_getElem? (i := 0) rfl))
  have Z20 := Nat.le_trans Z11 (Keep.of_wr W14).1
  have N21 := Fr.snoc X14 N12 g_a
  refine own_st (F' := T14.setTop (mkF m 50 #[.val (.ref a1), .val (.int z)] [(.int k)])) st14 ?_
  refine own_fin X14 (some (.int k)) (fun h => by rw [Bd.returns] at h; cases h) Bd.notSynchronized (by decide) (by decide) (fun fs hr => X14.ireturnOut hx (t := .int) Bd.returns rfl (Or.inl rfl) (hb hby d3_50) hr) ?_
  rw [e14]
  exact ⟨rfl, N21, K19.1, ⟨f15, f16, f17, f18, (by rw [List.length_set]; exact hl)⟩⟩
theorem d4_0 : decode prog_48_method_7_code 0 = .ok (.aload_n 0, 1) := by decide +kernel
theorem d4_1 : decode prog_48_method_7_code 1 = .ok (.dup, 1) := by decide +kernel
theorem d4_2 : decode prog_48_method_7_code 2 = .ok (.getfield 13, 3) := by decide +kernel
theorem d4_5 : decode prog_48_method_7_code 5 = .ok (.iconst 1, 1) := by decide +kernel
theorem d4_6 : decode prog_48_method_7_code 6 = .ok (.isub, 1) := by decide +kernel
theorem d4_7 : decode prog_48_method_7_code 7 = .ok (.putfield 13, 3) := by decide +kernel
theorem d4_10 : decode prog_48_method_7_code 10 = .ok (.aload_n 0, 1) := by decide +kernel
theorem d4_11 : decode prog_48_method_7_code 11 = .ok (.getfield 7, 3) := by decide +kernel
theorem d4_14 : decode prog_48_method_7_code 14 = .ok (.aload_n 0, 1) := by decide +kernel
theorem d4_15 : decode prog_48_method_7_code 15 = .ok (.getfield 13, 3) := by decide +kernel
theorem d4_18 : decode prog_48_method_7_code 18 = .ok (.iaload, 1) := by decide +kernel
theorem d4_19 : decode prog_48_method_7_code 19 = .ok (.ireturn, 1) := by decide +kernel
def Q4 (Z : State) (a1 b : Addr) (kb : ClassId) (k : Int32) (vs : List Value) (z : Int32) (h0 : Heap) (n0 : Nat) (v : Option Value) (h : Heap) (L : List Loc) : Prop := v = some (.int z) ∧ Fr n0 L ∧ h0.size ≤ h.size ∧ OInts Z h a1 b kb (k - (1 : Int32)) vs
theorem ef_4 (m : MethodId) (x0 : Addr) : entryFrame m #[(.ref x0)] 1 = mkF m 0 #[.val (.ref x0)] [] := by first | (simp [entryFrame, mkF, argsToLocals, Value.category]; done) | rfl
theorem pn_4 : plainName "com/example/coarsen/coarsen/service/Ints" = true := by first | (simp [plainName, overriddenIn]; done) | decide +kernel
set_option maxRecDepth 65536 in
set_option maxHeartbeats 40000000 in
theorem rm4 (l : Launch) (Z : State) (a0 : Array Value) (hw : ∀ d ∈ tables_1, d.before a0 Z = true) (ws : List Jvm.Cond) (a1 b : Addr) (kb : ClassId) (k : Int32) (vs : List Value) (z : Int32) (h0 : Heap) (n0 : Nat) (Z0 : n0 ≤ h0.size) (I : OInts Z h0 a1 b kb k vs) (g_a : n0 ≤ a1) (g_b : n0 ≤ b) (hk0 : ¬ k - (1 : Int32) < 0) (hk1 : k - (1 : Int32) < 16) (hv : vs.getD (k - (1 : Int32)).toNatClampNeg (.int (0 : Int32)) = .int z) :
    MetFree l (⟨"com/example/coarsen/coarsen/service/Ints", "removeLast", "()I"⟩ : MethodName) (head1 (Jvm.Cond.code (⟨"com/example/coarsen/coarsen/service/Ints", "removeLast", "()I"⟩ : MethodName) prog_48_method_7_code 1 (some .int) :: ws) ({ frames := 0, cells := 0, slots := 0, locals := 0 } : Room)) (fun a U => a = #[(.ref a1)] ∧ Z.Warmed39 U.vm ∧ U.heap = h0) (fun _ _ _ _ _ => True) (fun _ U o U' => ∃ v L, o = .returned v ∧ Q4 Z a1 b kb k vs z h0 n0 v U'.heap L ∧ FrameEnd U o U' L ({ frames := 0, cells := 0, slots := 0, locals := 0 } : Room).cells ({ frames := 0, cells := 0, slots := 0, locals := 0 } : Room).slots) := by
  refine MetFree.of_bodySF (plainFor_of_name pn_4) hisR ?_
  intro p e s m args below meth c s₁ Bd hml0 hP hK
  obtain ⟨rfl, hZ, hh⟩ := hP
  have hx := Bd.exec
  have hby := Bd.bytes
  have hml : c.maxLocals = 1 := hml0
  have hown : s.vm.findClass "com/example/coarsen/coarsen/service/Ints" = some m.cls := findClass_of_methodNamed Bd.named
  have hnm := (name_of_methodNamed Bd.named Bd.method).1
  have X0 : Stand p l e ({ frames := 0, cells := 0, slots := 0, locals := 0 } : Room) s m #[(.ref a1)] below meth c s₁ [] 0 0 := Stand.of_body Bd
  have e0 : s₁.heap = h0 := by rw [← hh, Bd.state]; rfl
  have N0 := Fr.nil n0
  suffices hgoal : OWp p e below s ({ frames := 0, cells := 0, slots := 0, locals := 0 } : Room).cells ({ frames := 0, cells := 0, slots := 0, locals := 0 } : Room).slots (Q4 Z a1 b kb k vs z h0 n0) (s₁.setTop (mkF m 0 #[.val (.ref a1)] [])) by
    rw [← ef_4] at hgoal; exact hgoal
  obtain ⟨E_a, Fv_a, Fs_a, V_b, hl⟩ := I
  have ne_ab : a1 ≠ b := by obtain ⟨_, Ar, -⟩ := V_b; exact ne_arr E_a (hw _ (List.mem_of_getElem? (i := 2) rfl)) Ar
  refine own_st (F' := s₁.setTop (mkF m 1 #[.val (.ref a1)] [(.ref a1)])) (fun t_ kk => XS.aloadN X0.here hx rfl (hb hby d4_0) rfl rfl kk) ?_
  refine own_st (F' := s₁.setTop (mkF m 2 #[.val (.ref a1)] [(.ref a1), (.ref a1)])) (fun t_ kk => XS.dup X0.here hx rfl (hb hby d4_1) rfl rfl kk) ?_
  obtain ⟨T1, X1, e1, st1⟩ := getF X0 hx hZ hown (host := "") (Or.inl (hw _ (List.mem_of_getElem? (i := 18) rfl))) Via.refl e0 Fs_a (g := (mkF m 2 #[.val (.ref a1)] [(.ref a1), (.ref a1)])) rfl rfl (hb hby d4_2)
  refine own_st (F' := T1.setTop (mkF m 5 #[.val (.ref a1)] [(.int k), (.ref a1)])) st1 ?_
  refine own_st (F' := T1.setTop (mkF m 6 #[.val (.ref a1)] [(.int (1 : Int32)), (.int k), (.ref a1)])) (fun t_ kk => XS.iconst X1.here hx rfl (hb hby d4_5) kk) ?_
  refine own_st (F' := T1.setTop (mkF m 7 #[.val (.ref a1)] [(.int (k - (1 : Int32))), (.ref a1)])) (fun t_ kk => XS.isub X1.here hx rfl (hb hby d4_6) rfl kk) ?_
  obtain ⟨T2, h2, X2, e2, W2, st2⟩ := putF X1 hx hZ hown (host := "") (Or.inl (hw _ (List.mem_of_getElem? (i := 18) rfl))) Via.refl e1 Fs_a E_a (Or.inl (hw _ (List.mem_of_getElem? (i := 19) rfl))) (hw _ (List.mem_of_getElem? (i := 2) rfl)) (ty := .int) (by decide) rfl rfl (g := (mkF m 7 #[.val (.ref a1)] [(.int (k - (1 : Int32))), (.ref a1)])) rfl rfl (hb hby d4_7)
  have f3 := E_a.wr W2
  have f4 := Fv_a.other W2 (Or.inr (slot_ne (Or.inl (hw _ (List.mem_of_getElem? (i := 12) rfl))) (Or.inl (hw _ (List.mem_of_getElem? (i := 19) rfl))) (by decide) (t := (.array .int)) (t' := .int) (by decide) (by decide)))
  have f5 := Fs_a.same W2
  have f6 := V_b.other W2 (Ne.symm ne_ab)
  have K7 := Keep.wr (Keep.refl h0 [a1, b]) W2 (Or.inl (List.mem_of_getElem? (i := 0) rfl))
  have Z8 := Nat.le_trans Z0 (Keep.of_wr W2).1
  have N9 := Fr.snoc X2 N0 g_a
  refine own_st (F' := T2.setTop (mkF m 10 #[.val (.ref a1)] [])) st2 ?_
  refine own_st (F' := T2.setTop (mkF m 11 #[.val (.ref a1)] [(.ref a1)])) (fun t_ kk => XS.aloadN X2.here hx rfl (hb hby d4_10) rfl rfl kk) ?_
  obtain ⟨T10, X10, e10, st10⟩ := getF X2 hx hZ hown (host := "") (Or.inl (hw _ (List.mem_of_getElem? (i := 11) rfl))) Via.refl e2 f4 (g := (mkF m 11 #[.val (.ref a1)] [(.ref a1)])) rfl rfl (hb hby d4_11)
  refine own_st (F' := T10.setTop (mkF m 14 #[.val (.ref a1)] [(.ref b)])) st10 ?_
  refine own_st (F' := T10.setTop (mkF m 15 #[.val (.ref a1)] [(.ref a1), (.ref b)])) (fun t_ kk => XS.aloadN X10.here hx rfl (hb hby d4_14) rfl rfl kk) ?_
  obtain ⟨T11, X11, e11, st11⟩ := getF X10 hx hZ hown (host := "") (Or.inl (hw _ (List.mem_of_getElem? (i := 18) rfl))) Via.refl e10 f5 (g := (mkF m 15 #[.val (.ref a1)] [(.ref a1), (.ref b)])) rfl rfl (hb hby d4_15)
  refine own_st (F' := T11.setTop (mkF m 18 #[.val (.ref a1)] [(.int (k - (1 : Int32))), (.ref b)])) st11 ?_
  refine own_st (F' := T11.setTop (mkF m 19 #[.val (.ref a1)] [(.int z)])) (own_ild X11 hx hZ e11 f6 (j := (k - (1 : Int32))) (w := z) hk0 hk1 hv (hb hby d4_18)) ?_
  refine own_fin X11 (some (.int z)) (fun h => by rw [Bd.returns] at h; cases h) Bd.notSynchronized (by decide) (by decide) (fun fs hr => X11.ireturnOut hx (t := .int) Bd.returns rfl (Or.inl rfl) (hb hby d4_19) hr) ?_
  rw [e11]
  exact ⟨rfl, N9, K7.1, ⟨f3, f4, f5, f6, hl⟩⟩
theorem d5_0 : decode prog_48_method_5_code 0 = .ok (.aload_n 0, 1) := by decide +kernel
theorem d5_1 : decode prog_48_method_5_code 1 = .ok (.getfield 13, 3) := by decide +kernel
theorem d5_4 : decode prog_48_method_5_code 4 = .ok (.ireturn, 1) := by decide +kernel
def Q5 (k : Int32) (h0 : Heap) (n0 : Nat) (v : Option Value) (h : Heap) (L : List Loc) : Prop := v = some (.int k) ∧ Fr n0 L ∧ h = h0
theorem ef_5 (m : MethodId) (x0 : Addr) : entryFrame m #[(.ref x0)] 1 = mkF m 0 #[.val (.ref x0)] [] := by first | (simp [entryFrame, mkF, argsToLocals, Value.category]; done) | rfl
theorem pn_5 : plainName "com/example/coarsen/coarsen/service/Ints" = true := by first | (simp [plainName, overriddenIn]; done) | decide +kernel
set_option maxRecDepth 65536 in
set_option maxHeartbeats 40000000 in
theorem rm5 (l : Launch) (Z : State) (a0 : Array Value) (hw : ∀ d ∈ tables_1, d.before a0 Z = true) (ws : List Jvm.Cond) (a1 b : Addr) (kb : ClassId) (k : Int32) (vs : List Value) (h0 : Heap) (n0 : Nat) (Z0 : n0 ≤ h0.size) (I : OInts Z h0 a1 b kb k vs) (g_a : n0 ≤ a1) (g_b : n0 ≤ b) :
    MetFree l (⟨"com/example/coarsen/coarsen/service/Ints", "size", "()I"⟩ : MethodName) (head1 (Jvm.Cond.code (⟨"com/example/coarsen/coarsen/service/Ints", "size", "()I"⟩ : MethodName) prog_48_method_5_code 1 (some .int) :: ws) ({ frames := 0, cells := 0, slots := 0, locals := 0 } : Room)) (fun a U => a = #[(.ref a1)] ∧ Z.Warmed39 U.vm ∧ U.heap = h0) (fun _ _ _ _ _ => True) (fun _ U o U' => ∃ v L, o = .returned v ∧ Q5 k h0 n0 v U'.heap L ∧ FrameEnd U o U' L ({ frames := 0, cells := 0, slots := 0, locals := 0 } : Room).cells ({ frames := 0, cells := 0, slots := 0, locals := 0 } : Room).slots) := by
  refine MetFree.of_bodySF (plainFor_of_name pn_5) hisR ?_
  intro p e s m args below meth c s₁ Bd hml0 hP hK
  obtain ⟨rfl, hZ, hh⟩ := hP
  have hx := Bd.exec
  have hby := Bd.bytes
  have hml : c.maxLocals = 1 := hml0
  have hown : s.vm.findClass "com/example/coarsen/coarsen/service/Ints" = some m.cls := findClass_of_methodNamed Bd.named
  have hnm := (name_of_methodNamed Bd.named Bd.method).1
  have X0 : Stand p l e ({ frames := 0, cells := 0, slots := 0, locals := 0 } : Room) s m #[(.ref a1)] below meth c s₁ [] 0 0 := Stand.of_body Bd
  have e0 : s₁.heap = h0 := by rw [← hh, Bd.state]; rfl
  have N0 := Fr.nil n0
  suffices hgoal : OWp p e below s ({ frames := 0, cells := 0, slots := 0, locals := 0 } : Room).cells ({ frames := 0, cells := 0, slots := 0, locals := 0 } : Room).slots (Q5 k h0 n0) (s₁.setTop (mkF m 0 #[.val (.ref a1)] [])) by
    rw [← ef_5] at hgoal; exact hgoal
  obtain ⟨E_a, Fv_a, Fs_a, V_b, hl⟩ := I
  have ne_ab : a1 ≠ b := by obtain ⟨_, Ar, -⟩ := V_b; exact ne_arr E_a (hw _ (List.mem_of_getElem? (i := 2) rfl)) Ar
  refine own_st (F' := s₁.setTop (mkF m 1 #[.val (.ref a1)] [(.ref a1)])) (fun t_ kk => XS.aloadN X0.here hx rfl (hb hby d5_0) rfl rfl kk) ?_
  obtain ⟨T1, X1, e1, st1⟩ := getF X0 hx hZ hown (host := "") (Or.inl (hw _ (List.mem_of_getElem? (i := 18) rfl))) Via.refl e0 Fs_a (g := (mkF m 1 #[.val (.ref a1)] [(.ref a1)])) rfl rfl (hb hby d5_1)
  refine own_st (F' := T1.setTop (mkF m 4 #[.val (.ref a1)] [(.int k)])) st1 ?_
  refine own_fin X1 (some (.int k)) (fun h => by rw [Bd.returns] at h; cases h) Bd.notSynchronized (by decide) (by decide) (fun fs hr => X1.ireturnOut hx (t := .int) Bd.returns rfl (Or.inl rfl) (hb hby d5_4) hr) ?_
  rw [e1]
  exact ⟨rfl, N0, rfl⟩
theorem d6_0 : decode prog_48_method_3_code 0 = .ok (.aload_n 0, 1) := by decide +kernel
theorem d6_1 : decode prog_48_method_3_code 1 = .ok (.getfield 7, 3) := by decide +kernel
theorem d6_4 : decode prog_48_method_3_code 4 = .ok (.iload_n 1, 1) := by decide +kernel
theorem d6_5 : decode prog_48_method_3_code 5 = .ok (.iaload, 1) := by decide +kernel
theorem d6_6 : decode prog_48_method_3_code 6 = .ok (.ireturn, 1) := by decide +kernel
def Q6 (z : Int32) (h0 : Heap) (n0 : Nat) (v : Option Value) (h : Heap) (L : List Loc) : Prop := v = some (.int z) ∧ Fr n0 L ∧ h = h0
theorem ef_6 (m : MethodId) (x0 : Addr) (x1 : Int32) : entryFrame m #[(.ref x0), (.int x1)] 2 = mkF m 0 #[.val (.ref x0), .val (.int x1)] [] := by first | (simp [entryFrame, mkF, argsToLocals, Value.category]; done) | rfl
theorem pn_6 : plainName "com/example/coarsen/coarsen/service/Ints" = true := by first | (simp [plainName, overriddenIn]; done) | decide +kernel
set_option maxRecDepth 65536 in
set_option maxHeartbeats 40000000 in
theorem rm6 (l : Launch) (Z : State) (a0 : Array Value) (hw : ∀ d ∈ tables_1, d.before a0 Z = true) (ws : List Jvm.Cond) (a1 b : Addr) (kb : ClassId) (k : Int32) (vs : List Value) (j z : Int32) (h0 : Heap) (n0 : Nat) (Z0 : n0 ≤ h0.size) (I : OInts Z h0 a1 b kb k vs) (g_a : n0 ≤ a1) (g_b : n0 ≤ b) (hk0 : ¬ j < 0) (hk1 : j < 16) (hv : vs.getD j.toNatClampNeg (.int (0 : Int32)) = .int z) :
    MetFree l (⟨"com/example/coarsen/coarsen/service/Ints", "get", "(I)I"⟩ : MethodName) (head1 (Jvm.Cond.code (⟨"com/example/coarsen/coarsen/service/Ints", "get", "(I)I"⟩ : MethodName) prog_48_method_3_code 2 (some .int) :: ws) ({ frames := 0, cells := 0, slots := 0, locals := 0 } : Room)) (fun a U => a = #[(.ref a1), (.int j)] ∧ Z.Warmed39 U.vm ∧ U.heap = h0) (fun _ _ _ _ _ => True) (fun _ U o U' => ∃ v L, o = .returned v ∧ Q6 z h0 n0 v U'.heap L ∧ FrameEnd U o U' L ({ frames := 0, cells := 0, slots := 0, locals := 0 } : Room).cells ({ frames := 0, cells := 0, slots := 0, locals := 0 } : Room).slots) := by
  refine MetFree.of_bodySF (plainFor_of_name pn_6) hisR ?_
  intro p e s m args below meth c s₁ Bd hml0 hP hK
  obtain ⟨rfl, hZ, hh⟩ := hP
  have hx := Bd.exec
  have hby := Bd.bytes
  have hml : c.maxLocals = 2 := hml0
  have hown : s.vm.findClass "com/example/coarsen/coarsen/service/Ints" = some m.cls := findClass_of_methodNamed Bd.named
  have hnm := (name_of_methodNamed Bd.named Bd.method).1
  have X0 : Stand p l e ({ frames := 0, cells := 0, slots := 0, locals := 0 } : Room) s m #[(.ref a1), (.int j)] below meth c s₁ [] 0 0 := Stand.of_body Bd
  have e0 : s₁.heap = h0 := by rw [← hh, Bd.state]; rfl
  have N0 := Fr.nil n0
  suffices hgoal : OWp p e below s ({ frames := 0, cells := 0, slots := 0, locals := 0 } : Room).cells ({ frames := 0, cells := 0, slots := 0, locals := 0 } : Room).slots (Q6 z h0 n0) (s₁.setTop (mkF m 0 #[.val (.ref a1), .val (.int j)] [])) by
    rw [← ef_6] at hgoal; exact hgoal
  obtain ⟨E_a, Fv_a, Fs_a, V_b, hl⟩ := I
  have ne_ab : a1 ≠ b := by obtain ⟨_, Ar, -⟩ := V_b; exact ne_arr E_a (hw _ (List.mem_of_getElem? (i := 2) rfl)) Ar
  refine own_st (F' := s₁.setTop (mkF m 1 #[.val (.ref a1), .val (.int j)] [(.ref a1)])) (fun t_ kk => XS.aloadN X0.here hx rfl (hb hby d6_0) rfl rfl kk) ?_
  obtain ⟨T1, X1, e1, st1⟩ := getF X0 hx hZ hown (host := "") (Or.inl (hw _ (List.mem_of_getElem? (i := 11) rfl))) Via.refl e0 Fv_a (g := (mkF m 1 #[.val (.ref a1), .val (.int j)] [(.ref a1)])) rfl rfl (hb hby d6_1)
  refine own_st (F' := T1.setTop (mkF m 4 #[.val (.ref a1), .val (.int j)] [(.ref b)])) st1 ?_
  refine own_st (F' := T1.setTop (mkF m 5 #[.val (.ref a1), .val (.int j)] [(.int j), (.ref b)])) (fun t_ kk => XS.iloadN X1.here hx rfl (hb hby d6_4) rfl kk) ?_
  refine own_st (F' := T1.setTop (mkF m 6 #[.val (.ref a1), .val (.int j)] [(.int z)])) (own_ild X1 hx hZ e1 V_b (j := j) (w := z) hk0 hk1 hv (hb hby d6_5)) ?_
  refine own_fin X1 (some (.int z)) (fun h => by rw [Bd.returns] at h; cases h) Bd.notSynchronized (by decide) (by decide) (fun fs hr => X1.ireturnOut hx (t := .int) Bd.returns rfl (Or.inl rfl) (hb hby d6_6) hr) ?_
  rw [e1]
  exact ⟨rfl, N0, rfl⟩
def Q0 (p1 p2 p3 p4 p5 : Int32) (h0 : Heap) (n0 : Nat) (v : Option Value) (h : Heap) (L : List Loc) : Prop := v = some (.int 1) ∧ Fr n0 L
theorem ef_0 (m : MethodId) (x0 : Int32) (x1 : Int32) (x2 : Int32) (x3 : Int32) (x4 : Int32) : entryFrame m #[(.int x0), (.int x1), (.int x2), (.int x3), (.int x4)] maxLocals = mkF m 0 #[.val (.int x0), .val (.int x1), .val (.int x2), .val (.int x3), .val (.int x4), .unset, .unset, .unset, .unset, .unset, .unset] [] := by first | (simp [entryFrame, mkF, argsToLocals, Value.category, maxLocals]; done) | rfl
theorem pn_0 : plainName "com/example/coarsen/coarsen/service/IntsRemoveLastPinLaw" = true := by first | (simp [plainName, overriddenIn]; done) | decide +kernel
set_option maxRecDepth 65536 in
set_option maxHeartbeats 40000000 in
theorem rm0 (l : Launch) (Z : State) (a0 : Array Value) (hw : ∀ d ∈ tables_1, d.before a0 Z = true) (ws : List Jvm.Cond) (p1 p2 p3 p4 p5 : Int32) (h0 : Heap) (n0 : Nat) (Z0 : n0 ≤ h0.size)  :
    MetFree l x (head1 (Jvm.Cond.code x code maxLocals ret :: ws) room_1) (fun a U => a = #[(.int p1), (.int p2), (.int p3), (.int p4), (.int p5)] ∧ Z.Warmed39 U.vm ∧ U.heap = h0) (fun _ _ _ _ _ => True) (fun _ U o U' => ∃ v L, o = .returned v ∧ Q0 p1 p2 p3 p4 p5 h0 n0 v U'.heap L ∧ FrameEnd U o U' L room_1.cells room_1.slots) := by
  refine MetFree.of_bodySF (plainFor_of_name pn_0) hisR ?_
  intro p e s m args below meth c s₁ Bd hml0 hP hK
  obtain ⟨rfl, hZ, hh⟩ := hP
  have hx := Bd.exec
  have hby := Bd.bytes
  have hml : c.maxLocals = 11 := hml0
  have hown : s.vm.findClass "com/example/coarsen/coarsen/service/IntsRemoveLastPinLaw" = some m.cls := findClass_of_methodNamed Bd.named
  have hnm := (name_of_methodNamed Bd.named Bd.method).1
  have X0 : Stand p l e room_1 s m #[(.int p1), (.int p2), (.int p3), (.int p4), (.int p5)] below meth c s₁ [] 0 0 := Stand.of_body Bd
  have e0 : s₁.heap = h0 := by rw [← hh, Bd.state]; rfl
  have N0 := Fr.nil n0
  suffices hgoal : OWp p e below s room_1.cells room_1.slots (Q0 p1 p2 p3 p4 p5 h0 n0) (s₁.setTop (mkF m 0 #[.val (.int p1), .val (.int p2), .val (.int p3), .val (.int p4), .val (.int p5), .unset, .unset, .unset, .unset, .unset, .unset] [])) by
    rw [← ef_0] at hgoal; exact hgoal
  refine own_st (F' := s₁.setTop (mkF m 1 #[.val (.int p1), .val (.int p2), .val (.int p3), .val (.int p4), .val (.int p5), .unset, .unset, .unset, .unset, .unset, .unset] [(.int (1 : Int32))])) (fun t_ kk => XS.iconst X0.here hx rfl (hb hby at_0) kk) ?_
  refine own_st (F' := s₁.setTop (mkF m 3 #[.val (.int p1), .val (.int p2), .val (.int p3), .val (.int p4), .val (.int p5), .unset, .unset, .unset, .unset, .unset, .unset] [(.int p5), (.int (1 : Int32))])) (fun t_ kk => XS.iload X0.here hx rfl (hb hby at_1) rfl kk) ?_
  refine own_st (F' := s₁.setTop (mkF m 5 #[.val (.int p1), .val (.int p2), .val (.int p3), .val (.int p4), .val (.int p5), .unset, .unset, .unset, .unset, .unset, .unset] [(.int (2147483647 : Int32)), (.int p5), (.int (1 : Int32))])) (X0.ldcInt hx hown (mvT hZ (hw _ (List.mem_of_getElem? (i := 0) rfl))) (g := (mkF m 3 #[.val (.int p1), .val (.int p2), .val (.int p3), .val (.int p4), .val (.int p5), .unset, .unset, .unset, .unset, .unset, .unset] [(.int p5), (.int (1 : Int32))])) rfl (hb hby at_3)) ?_
  refine own_st (F' := s₁.setTop (mkF m 6 #[.val (.int p1), .val (.int p2), .val (.int p3), .val (.int p4), .val (.int p5), .unset, .unset, .unset, .unset, .unset, .unset] [(.int (p5 &&& (2147483647 : Int32))), (.int (1 : Int32))])) (fun t_ kk => XS.iand X0.here hx rfl (hb hby at_5) rfl kk) ?_
  refine own_st (F' := s₁.setTop (mkF m 7 #[.val (.int p1), .val (.int p2), .val (.int p3), .val (.int p4), .val (.int p5), .unset, .unset, .unset, .unset, .unset, .unset] [(.int (3 : Int32)), (.int (p5 &&& (2147483647 : Int32))), (.int (1 : Int32))])) (fun t_ kk => XS.iconst X0.here hx rfl (hb hby at_6) kk) ?_
  refine own_st (F' := s₁.setTop (mkF m 8 #[.val (.int p1), .val (.int p2), .val (.int p3), .val (.int p4), .val (.int p5), .unset, .unset, .unset, .unset, .unset, .unset] [(.int ((p5 &&& (2147483647 : Int32)) % (3 : Int32))), (.int (1 : Int32))])) (fun t_ kk => own_irem X0.here hx rfl (hb hby at_7) rfl (by decide) kk) ?_
  refine own_st (F' := s₁.setTop (mkF m 9 #[.val (.int p1), .val (.int p2), .val (.int p3), .val (.int p4), .val (.int p5), .unset, .unset, .unset, .unset, .unset, .unset] [(.int ((1 : Int32) + ((p5 &&& (2147483647 : Int32)) % (3 : Int32))))])) (fun t_ kk => XS.iadd X0.here hx rfl (hb hby at_8) rfl kk) ?_
  rcases own_n p5 with hn | hn | hn
  · rw [hn]
    show OWp p e below s _ _ _ (s₁.setTop (mkF m 9 #[.val (.int p1), .val (.int p2), .val (.int p3), .val (.int p4), .val (.int p5), .unset, .unset, .unset, .unset, .unset, .unset] [(.int (1 : Int32))]))
    refine own_st (F' := s₁.setTop (mkF m 11 #[.val (.int p1), .val (.int p2), .val (.int p3), .val (.int p4), .val (.int p5), .val (.int (1 : Int32)), .unset, .unset, .unset, .unset, .unset] [])) (fun t_ kk => XS.istore X0.here hx rfl (hb hby at_9) rfl (l' := #[.val (.int p1), .val (.int p2), .val (.int p3), .val (.int p4), .val (.int p5), .val (.int (1 : Int32)), .unset, .unset, .unset, .unset, .unset]) rfl kk) ?_
    obtain ⟨T1, h1, X1, e1, E1, A1, D1, -, st1⟩ := newO X0 hx hZ hown (hw _ (List.mem_of_getElem? (i := 1) rfl)) (hw _ (List.mem_of_getElem? (i := 2) rfl)) (hw _ (List.mem_of_getElem? (i := 3) rfl)) e0 (g := (mkF m 11 #[.val (.int p1), .val (.int p2), .val (.int p3), .val (.int p4), .val (.int p5), .val (.int (1 : Int32)), .unset, .unset, .unset, .unset, .unset] [])) rfl (hb hby at_11) (by decide) (by decide)
    obtain ⟨b1, g1⟩ : ∃ z, z = h0.size := ⟨_, rfl⟩
    rw [← g1] at A1 D1 st1
    have g_b1 : n0 ≤ b1 := Nat.le_trans Z0 (Nat.le_of_eq g1.symm)
    have F1_values : Fld Z h1 b1 "com/example/coarsen/coarsen/service/Ints" "values" "[I" .null := D1 (Or.inl (hw _ (List.mem_of_getElem? (i := 12) rfl))) (ty := (.array .int)) (by decide)
    have F1_size : Fld Z h1 b1 "com/example/coarsen/coarsen/service/Ints" "size" "I" (.int (0 : Int32)) := D1 (Or.inl (hw _ (List.mem_of_getElem? (i := 19) rfl))) (ty := .int) (by decide)
    have Z2 := Nat.le_trans Z0 E1.1
    refine own_st (F' := T1.setTop (mkF m 14 #[.val (.int p1), .val (.int p2), .val (.int p3), .val (.int p4), .val (.int p5), .val (.int (1 : Int32)), .unset, .unset, .unset, .unset, .unset] [(.ref b1)])) st1 ?_
    refine own_st (F' := T1.setTop (mkF m 15 #[.val (.int p1), .val (.int p2), .val (.int p3), .val (.int p4), .val (.int p5), .val (.int (1 : Int32)), .unset, .unset, .unset, .unset, .unset] [(.ref b1), (.ref b1)])) (fun t_ kk => XS.dup X1.here hx rfl (hb hby at_14) rfl rfl kk) ?_
    refine own_init X1 hx hZ (y := (⟨"com/example/coarsen/coarsen/service/Ints", "<init>", "()V"⟩ : MethodName)) hown rfl (hw _ (List.mem_of_getElem? (i := 4) rfl)) (hw _ (List.mem_of_getElem? (i := 5) rfl)) (hw _ (List.mem_of_getElem? (i := 3) rfl)) (hw _ (List.mem_of_getElem? (i := 6) rfl)) (rm1 l Z a0 hw [] b1 .null h1 n0 Z2 A1 F1_values F1_size g_b1) (by decide) (W := 1) (a := b1) (argsL := []) (rest := [(.ref b1)]) (by decide) (by decide) (by rw [hml]; rfl) (lenOf own_pd0 rfl) rfl rfl (Nat.le_of_eq rfl) (hb hby at_15) e1 (by decide) (by decide) ?_
    intro v3 T3 L3 hQ3 X3
    obtain ⟨rfl, N3q, Z3q, b, kb, g_b, I3⟩ := hQ3
    have N3 := Fr.app N0 N3q
    have Z3 := Nat.le_trans Z2 Z3q
    obtain ⟨h3, e3⟩ : ∃ z, T3.heap = z := ⟨_, rfl⟩
    rw [e3] at I3 Z3
    show OWp p e below s _ _ _ (T3.setTop (mkF m 18 #[.val (.int p1), .val (.int p2), .val (.int p3), .val (.int p4), .val (.int p5), .val (.int (1 : Int32)), .unset, .unset, .unset, .unset, .unset] [(.ref b1)]))
    refine own_st (F' := T3.setTop (mkF m 20 #[.val (.int p1), .val (.int p2), .val (.int p3), .val (.int p4), .val (.int p5), .val (.int (1 : Int32)), .val (.ref b1), .unset, .unset, .unset, .unset] [])) (fun t_ kk => XS.astore X3.here hx rfl (hb hby at_18) rfl rfl (l' := #[.val (.int p1), .val (.int p2), .val (.int p3), .val (.int p4), .val (.int p5), .val (.int (1 : Int32)), .val (.ref b1), .unset, .unset, .unset, .unset]) rfl kk) ?_
    refine own_st (F' := T3.setTop (mkF m 22 #[.val (.int p1), .val (.int p2), .val (.int p3), .val (.int p4), .val (.int p5), .val (.int (1 : Int32)), .val (.ref b1), .unset, .unset, .unset, .unset] [(.ref b1)])) (fun t_ kk => XS.aload X3.here hx rfl (hb hby at_20) rfl rfl kk) ?_
    refine own_st (F' := T3.setTop (mkF m 23 #[.val (.int p1), .val (.int p2), .val (.int p3), .val (.int p4), .val (.int p5), .val (.int (1 : Int32)), .val (.ref b1), .unset, .unset, .unset, .unset] [(.int p1), (.ref b1)])) (fun t_ kk => XS.iloadN X3.here hx rfl (hb hby at_22) rfl kk) ?_
    refine own_virt X3 hx hZ (y := (⟨"com/example/coarsen/coarsen/service/Ints", "add", "(I)I"⟩ : MethodName)) hown (hw _ (List.mem_of_getElem? (i := 13) rfl)) (hw _ (List.mem_of_getElem? (i := 14) rfl)) (hw _ (List.mem_of_getElem? (i := 16) rfl)) (hw _ (List.mem_of_getElem? (i := 15) rfl)) (hw _ (List.mem_of_getElem? (i := 3) rfl)) (hw _ (List.mem_of_getElem? (i := 17) rfl)) I3.1 (rm3 l Z a0 hw [] b1 b kb (0 : Int32) [(.int (0 : Int32)), (.int (0 : Int32)), (.int (0 : Int32)), (.int (0 : Int32)), (.int (0 : Int32)), (.int (0 : Int32)), (.int (0 : Int32)), (.int (0 : Int32)), (.int (0 : Int32)), (.int (0 : Int32)), (.int (0 : Int32)), (.int (0 : Int32)), (.int (0 : Int32)), (.int (0 : Int32)), (.int (0 : Int32)), (.int (0 : Int32))] p1 0 h3 n0 Z3 I3 g_b1 g_b (by decide) (by decide) (by decide)) (by decide) (W := 0) (argsL := [(.int p1)]) (rest := []) (by decide) (by decide) (by rw [hml]; rfl) (lenOf own_pd1 rfl) rfl rfl (Nat.le_of_eq rfl) (hb hby at_23) e3 (by decide) (by decide) ?_
    intro v4 T4 L4 hQ4 X4
    obtain ⟨rfl, N4q, Z4q, I4q⟩ := hQ4
    have N4 := Fr.app N3 N4q
    have Z4 := Nat.le_trans Z3 Z4q
    obtain ⟨h4, e4⟩ : ∃ z, T4.heap = z := ⟨_, rfl⟩
    rw [e4] at I4q Z4
    have I4 : OInts Z h4 b1 b kb (1 : Int32) ([(.int (0 : Int32)), (.int (0 : Int32)), (.int (0 : Int32)), (.int (0 : Int32)), (.int (0 : Int32)), (.int (0 : Int32)), (.int (0 : Int32)), (.int (0 : Int32)), (.int (0 : Int32)), (.int (0 : Int32)), (.int (0 : Int32)), (.int (0 : Int32)), (.int (0 : Int32)), (.int (0 : Int32)), (.int (0 : Int32)), (.int (0 : Int32))].set 0 (.int p1)) := I4q
    show OWp p e below s _ _ _ (T4.setTop (mkF m 26 #[.val (.int p1), .val (.int p2), .val (.int p3), .val (.int p4), .val (.int p5), .val (.int (1 : Int32)), .val (.ref b1), .unset, .unset, .unset, .unset] [(.int (0 : Int32))]))
    refine own_st (F' := T4.setTop (mkF m 27 #[.val (.int p1), .val (.int p2), .val (.int p3), .val (.int p4), .val (.int p5), .val (.int (1 : Int32)), .val (.ref b1), .unset, .unset, .unset, .unset] [])) (fun t_ kk => XS.pop X4.here hx rfl (hb hby at_26) rfl rfl kk) ?_
    refine own_st (F' := T4.setTop (mkF m 29 #[.val (.int p1), .val (.int p2), .val (.int p3), .val (.int p4), .val (.int p5), .val (.int (1 : Int32)), .val (.ref b1), .unset, .unset, .unset, .unset] [(.int (1 : Int32))])) (fun t_ kk => XS.iload X4.here hx rfl (hb hby at_27) rfl kk) ?_
    refine own_st (F' := T4.setTop (mkF m 30 #[.val (.int p1), .val (.int p2), .val (.int p3), .val (.int p4), .val (.int p5), .val (.int (1 : Int32)), .val (.ref b1), .unset, .unset, .unset, .unset] [(.int (2 : Int32)), (.int (1 : Int32))])) (fun t_ kk => XS.iconst X4.here hx rfl (hb hby at_29) kk) ?_
    refine own_st (F' := T4.setTop (mkF m 40 #[.val (.int p1), .val (.int p2), .val (.int p3), .val (.int p4), .val (.int p5), .val (.int (1 : Int32)), .val (.ref b1), .unset, .unset, .unset, .unset] [])) (fun t_ kk => XS.icmpYes X4.here hx rfl (pc0 := 30) (pc' := 40) rfl (hb hby at_30) rfl (tlt (by decide : (1 : Int32) < (2 : Int32))).1 (by decide) (by decide) kk) ?_
    refine own_st (F' := T4.setTop (mkF m 42 #[.val (.int p1), .val (.int p2), .val (.int p3), .val (.int p4), .val (.int p5), .val (.int (1 : Int32)), .val (.ref b1), .unset, .unset, .unset, .unset] [(.int (1 : Int32))])) (fun t_ kk => XS.iload X4.here hx rfl (hb hby at_40) rfl kk) ?_
    refine own_st (F' := T4.setTop (mkF m 43 #[.val (.int p1), .val (.int p2), .val (.int p3), .val (.int p4), .val (.int p5), .val (.int (1 : Int32)), .val (.ref b1), .unset, .unset, .unset, .unset] [(.int (3 : Int32)), (.int (1 : Int32))])) (fun t_ kk => XS.iconst X4.here hx rfl (hb hby at_42) kk) ?_
    refine own_st (F' := T4.setTop (mkF m 53 #[.val (.int p1), .val (.int p2), .val (.int p3), .val (.int p4), .val (.int p5), .val (.int (1 : Int32)), .val (.ref b1), .unset, .unset, .unset, .unset] [])) (fun t_ kk => XS.icmpYes X4.here hx rfl (pc0 := 43) (pc' := 53) rfl (hb hby at_43) rfl (tlt (by decide : (1 : Int32) < (3 : Int32))).1 (by decide) (by decide) kk) ?_
    refine own_st (F' := T4.setTop (mkF m 54 #[.val (.int p1), .val (.int p2), .val (.int p3), .val (.int p4), .val (.int p5), .val (.int (1 : Int32)), .val (.ref b1), .unset, .unset, .unset, .unset] [(.int p1)])) (fun t_ kk => XS.iloadN X4.here hx rfl (hb hby at_53) rfl kk) ?_
    refine own_st (F' := T4.setTop (mkF m 56 #[.val (.int p1), .val (.int p2), .val (.int p3), .val (.int p4), .val (.int p5), .val (.int (1 : Int32)), .val (.ref b1), .val (.int p1), .unset, .unset, .unset] [])) (fun t_ kk => XS.istore X4.here hx rfl (hb hby at_54) rfl (l' := #[.val (.int p1), .val (.int p2), .val (.int p3), .val (.int p4), .val (.int p5), .val (.int (1 : Int32)), .val (.ref b1), .val (.int p1), .unset, .unset, .unset]) rfl kk) ?_
    refine own_st (F' := T4.setTop (mkF m 58 #[.val (.int p1), .val (.int p2), .val (.int p3), .val (.int p4), .val (.int p5), .val (.int (1 : Int32)), .val (.ref b1), .val (.int p1), .unset, .unset, .unset] [(.int (1 : Int32))])) (fun t_ kk => XS.iload X4.here hx rfl (hb hby at_56) rfl kk) ?_
    refine own_st (F' := T4.setTop (mkF m 59 #[.val (.int p1), .val (.int p2), .val (.int p3), .val (.int p4), .val (.int p5), .val (.int (1 : Int32)), .val (.ref b1), .val (.int p1), .unset, .unset, .unset] [(.int (2 : Int32)), (.int (1 : Int32))])) (fun t_ kk => XS.iconst X4.here hx rfl (hb hby at_58) kk) ?_
    refine own_st (F' := T4.setTop (mkF m 65 #[.val (.int p1), .val (.int p2), .val (.int p3), .val (.int p4), .val (.int p5), .val (.int (1 : Int32)), .val (.ref b1), .val (.int p1), .unset, .unset, .unset] [])) (fun t_ kk => XS.icmpYes X4.here hx rfl (pc0 := 59) (pc' := 65) rfl (hb hby at_59) rfl (feq (by decide : ¬ ((1 : Int32) = (2 : Int32)))).2 (by decide) (by decide) kk) ?_
    refine own_st (F' := T4.setTop (mkF m 67 #[.val (.int p1), .val (.int p2), .val (.int p3), .val (.int p4), .val (.int p5), .val (.int (1 : Int32)), .val (.ref b1), .val (.int p1), .unset, .unset, .unset] [(.int (1 : Int32))])) (fun t_ kk => XS.iload X4.here hx rfl (hb hby at_65) rfl kk) ?_
    refine own_st (F' := T4.setTop (mkF m 68 #[.val (.int p1), .val (.int p2), .val (.int p3), .val (.int p4), .val (.int p5), .val (.int (1 : Int32)), .val (.ref b1), .val (.int p1), .unset, .unset, .unset] [(.int (3 : Int32)), (.int (1 : Int32))])) (fun t_ kk => XS.iconst X4.here hx rfl (hb hby at_67) kk) ?_
    refine own_st (F' := T4.setTop (mkF m 74 #[.val (.int p1), .val (.int p2), .val (.int p3), .val (.int p4), .val (.int p5), .val (.int (1 : Int32)), .val (.ref b1), .val (.int p1), .unset, .unset, .unset] [])) (fun t_ kk => XS.icmpYes X4.here hx rfl (pc0 := 68) (pc' := 74) rfl (hb hby at_68) rfl (feq (by decide : ¬ ((1 : Int32) = (3 : Int32)))).2 (by decide) (by decide) kk) ?_
    refine own_st (F' := T4.setTop (mkF m 76 #[.val (.int p1), .val (.int p2), .val (.int p3), .val (.int p4), .val (.int p5), .val (.int (1 : Int32)), .val (.ref b1), .val (.int p1), .unset, .unset, .unset] [(.ref b1)])) (fun t_ kk => XS.aload X4.here hx rfl (hb hby at_74) rfl rfl kk) ?_
    refine own_virt X4 hx hZ (y := (⟨"com/example/coarsen/coarsen/service/Ints", "removeLast", "()I"⟩ : MethodName)) hown (hw _ (List.mem_of_getElem? (i := 20) rfl)) (hw _ (List.mem_of_getElem? (i := 21) rfl)) (hw _ (List.mem_of_getElem? (i := 23) rfl)) (hw _ (List.mem_of_getElem? (i := 22) rfl)) (hw _ (List.mem_of_getElem? (i := 3) rfl)) (hw _ (List.mem_of_getElem? (i := 24) rfl)) I4.1 (rm4 l Z a0 hw [] b1 b kb (1 : Int32) ([(.int (0 : Int32)), (.int (0 : Int32)), (.int (0 : Int32)), (.int (0 : Int32)), (.int (0 : Int32)), (.int (0 : Int32)), (.int (0 : Int32)), (.int (0 : Int32)), (.int (0 : Int32)), (.int (0 : Int32)), (.int (0 : Int32)), (.int (0 : Int32)), (.int (0 : Int32)), (.int (0 : Int32)), (.int (0 : Int32)), (.int (0 : Int32))].set 0 (.int p1)) p1 h4 n0 Z4 I4 g_b1 g_b (by decide) (by decide) rfl) (by decide) (W := 0) (argsL := []) (rest := []) (by decide) (by decide) (by rw [hml]; rfl) (lenOf own_pd2 rfl) rfl rfl (Nat.le_of_eq rfl) (hb hby at_76) e4 (by decide) (by decide) ?_
    intro v5 T5 L5 hQ5 X5
    obtain ⟨rfl, N5q, Z5q, I5q⟩ := hQ5
    have N5 := Fr.app N4 N5q
    have Z5 := Nat.le_trans Z4 Z5q
    obtain ⟨h5, e5⟩ : ∃ z, T5.heap = z := ⟨_, rfl⟩
    rw [e5] at I5q Z5
    have I5 : OInts Z h5 b1 b kb (0 : Int32) ([(.int (0 : Int32)), (.int (0 : Int32)), (.int (0 : Int32)), (.int (0 : Int32)), (.int (0 : Int32)), (.int (0 : Int32)), (.int (0 : Int32)), (.int (0 : Int32)), (.int (0 : Int32)), (.int (0 : Int32)), (.int (0 : Int32)), (.int (0 : Int32)), (.int (0 : Int32)), (.int (0 : Int32)), (.int (0 : Int32)), (.int (0 : Int32))].set 0 (.int p1)) := I5q
    show OWp p e below s _ _ _ (T5.setTop (mkF m 79 #[.val (.int p1), .val (.int p2), .val (.int p3), .val (.int p4), .val (.int p5), .val (.int (1 : Int32)), .val (.ref b1), .val (.int p1), .unset, .unset, .unset] [(.int p1)]))
    refine own_st (F' := T5.setTop (mkF m 81 #[.val (.int p1), .val (.int p2), .val (.int p3), .val (.int p4), .val (.int p5), .val (.int (1 : Int32)), .val (.ref b1), .val (.int p1), .val (.int p1), .unset, .unset] [])) (fun t_ kk => XS.istore X5.here hx rfl (hb hby at_79) rfl (l' := #[.val (.int p1), .val (.int p2), .val (.int p3), .val (.int p4), .val (.int p5), .val (.int (1 : Int32)), .val (.ref b1), .val (.int p1), .val (.int p1), .unset, .unset]) rfl kk) ?_
    refine own_st (F' := T5.setTop (mkF m 83 #[.val (.int p1), .val (.int p2), .val (.int p3), .val (.int p4), .val (.int p5), .val (.int (1 : Int32)), .val (.ref b1), .val (.int p1), .val (.int p1), .unset, .unset] [(.int p1)])) (fun t_ kk => XS.iload X5.here hx rfl (hb hby at_81) rfl kk) ?_
    refine own_st (F' := T5.setTop (mkF m 85 #[.val (.int p1), .val (.int p2), .val (.int p3), .val (.int p4), .val (.int p5), .val (.int (1 : Int32)), .val (.ref b1), .val (.int p1), .val (.int p1), .unset, .unset] [(.int p1), (.int p1)])) (fun t_ kk => XS.iload X5.here hx rfl (hb hby at_83) rfl kk) ?_
    refine own_st (F' := T5.setTop (mkF m 88 #[.val (.int p1), .val (.int p2), .val (.int p3), .val (.int p4), .val (.int p5), .val (.int (1 : Int32)), .val (.ref b1), .val (.int p1), .val (.int p1), .unset, .unset] [])) (fun t_ kk => XS.icmpNo X5.here hx rfl (hb hby at_85) rfl (teq (rfl : p1 = p1)).2 kk) ?_
    refine own_st (F' := T5.setTop (mkF m 89 #[.val (.int p1), .val (.int p2), .val (.int p3), .val (.int p4), .val (.int p5), .val (.int (1 : Int32)), .val (.ref b1), .val (.int p1), .val (.int p1), .unset, .unset] [(.int (1 : Int32))])) (fun t_ kk => XS.iconst X5.here hx rfl (hb hby at_88) kk) ?_
    refine own_st (F' := T5.setTop (mkF m 93 #[.val (.int p1), .val (.int p2), .val (.int p3), .val (.int p4), .val (.int p5), .val (.int (1 : Int32)), .val (.ref b1), .val (.int p1), .val (.int p1), .unset, .unset] [(.int (1 : Int32))])) (fun t_ kk => XS.goto X5.here hx rfl (pc0 := 89) (pc' := 93) rfl (hb hby at_89) (by decide) (by decide) kk) ?_
    refine own_st (F' := T5.setTop (mkF m 95 #[.val (.int p1), .val (.int p2), .val (.int p3), .val (.int p4), .val (.int p5), .val (.int (1 : Int32)), .val (.ref b1), .val (.int p1), .val (.int p1), .val (.int (1 : Int32)), .unset] [])) (fun t_ kk => XS.istore X5.here hx rfl (hb hby at_93) rfl (l' := #[.val (.int p1), .val (.int p2), .val (.int p3), .val (.int p4), .val (.int p5), .val (.int (1 : Int32)), .val (.ref b1), .val (.int p1), .val (.int p1), .val (.int (1 : Int32)), .unset]) rfl kk) ?_
    refine own_st (F' := T5.setTop (mkF m 97 #[.val (.int p1), .val (.int p2), .val (.int p3), .val (.int p4), .val (.int p5), .val (.int (1 : Int32)), .val (.ref b1), .val (.int p1), .val (.int p1), .val (.int (1 : Int32)), .unset] [(.int (1 : Int32))])) (fun t_ kk => XS.iload X5.here hx rfl (hb hby at_95) rfl kk) ?_
    refine own_st (F' := T5.setTop (mkF m 100 #[.val (.int p1), .val (.int p2), .val (.int p3), .val (.int p4), .val (.int p5), .val (.int (1 : Int32)), .val (.ref b1), .val (.int p1), .val (.int p1), .val (.int (1 : Int32)), .unset] [])) (fun t_ kk => XS.ifNo X5.here hx rfl (hb hby at_97) rfl ((if0 _ _).trans (feq (by decide : ¬ ((1 : Int32) = (0 : Int32)))).1) kk) ?_
    refine own_st (F' := T5.setTop (mkF m 102 #[.val (.int p1), .val (.int p2), .val (.int p3), .val (.int p4), .val (.int p5), .val (.int (1 : Int32)), .val (.ref b1), .val (.int p1), .val (.int p1), .val (.int (1 : Int32)), .unset] [(.ref b1)])) (fun t_ kk => XS.aload X5.here hx rfl (hb hby at_100) rfl rfl kk) ?_
    refine own_virt X5 hx hZ (y := (⟨"com/example/coarsen/coarsen/service/Ints", "size", "()I"⟩ : MethodName)) hown (hw _ (List.mem_of_getElem? (i := 25) rfl)) (hw _ (List.mem_of_getElem? (i := 26) rfl)) (hw _ (List.mem_of_getElem? (i := 28) rfl)) (hw _ (List.mem_of_getElem? (i := 27) rfl)) (hw _ (List.mem_of_getElem? (i := 3) rfl)) (hw _ (List.mem_of_getElem? (i := 29) rfl)) I5.1 (rm5 l Z a0 hw [] b1 b kb (0 : Int32) ([(.int (0 : Int32)), (.int (0 : Int32)), (.int (0 : Int32)), (.int (0 : Int32)), (.int (0 : Int32)), (.int (0 : Int32)), (.int (0 : Int32)), (.int (0 : Int32)), (.int (0 : Int32)), (.int (0 : Int32)), (.int (0 : Int32)), (.int (0 : Int32)), (.int (0 : Int32)), (.int (0 : Int32)), (.int (0 : Int32)), (.int (0 : Int32))].set 0 (.int p1)) h5 n0 Z5 I5 g_b1 g_b) (by decide) (W := 0) (argsL := []) (rest := []) (by decide) (by decide) (by rw [hml]; rfl) (lenOf own_pd2 rfl) rfl rfl (Nat.le_of_eq rfl) (hb hby at_102) e5 (by decide) (by decide) ?_
    intro v6 T6 L6 hQ6 X6
    obtain ⟨rfl, N6q, e6⟩ := hQ6
    have N6 := Fr.app N5 N6q
    show OWp p e below s _ _ _ (T6.setTop (mkF m 105 #[.val (.int p1), .val (.int p2), .val (.int p3), .val (.int p4), .val (.int p5), .val (.int (1 : Int32)), .val (.ref b1), .val (.int p1), .val (.int p1), .val (.int (1 : Int32)), .unset] [(.int (0 : Int32))]))
    refine own_st (F' := T6.setTop (mkF m 107 #[.val (.int p1), .val (.int p2), .val (.int p3), .val (.int p4), .val (.int p5), .val (.int (1 : Int32)), .val (.ref b1), .val (.int p1), .val (.int p1), .val (.int (1 : Int32)), .unset] [(.int (1 : Int32)), (.int (0 : Int32))])) (fun t_ kk => XS.iload X6.here hx rfl (hb hby at_105) rfl kk) ?_
    refine own_st (F' := T6.setTop (mkF m 108 #[.val (.int p1), .val (.int p2), .val (.int p3), .val (.int p4), .val (.int p5), .val (.int (1 : Int32)), .val (.ref b1), .val (.int p1), .val (.int p1), .val (.int (1 : Int32)), .unset] [(.int (1 : Int32)), (.int (1 : Int32)), (.int (0 : Int32))])) (fun t_ kk => XS.iconst X6.here hx rfl (hb hby at_107) kk) ?_
    refine own_st (F' := T6.setTop (mkF m 109 #[.val (.int p1), .val (.int p2), .val (.int p3), .val (.int p4), .val (.int p5), .val (.int (1 : Int32)), .val (.ref b1), .val (.int p1), .val (.int p1), .val (.int (1 : Int32)), .unset] [(.int (0 : Int32)), (.int (0 : Int32))])) (fun t_ kk => XS.isub X6.here hx rfl (hb hby at_108) rfl kk) ?_
    refine own_st (F' := T6.setTop (mkF m 112 #[.val (.int p1), .val (.int p2), .val (.int p3), .val (.int p4), .val (.int p5), .val (.int (1 : Int32)), .val (.ref b1), .val (.int p1), .val (.int p1), .val (.int (1 : Int32)), .unset] [])) (fun t_ kk => XS.icmpNo X6.here hx rfl (hb hby at_109) rfl (teq (by decide : (0 : Int32) = (0 : Int32))).2 kk) ?_
    refine own_st (F' := T6.setTop (mkF m 113 #[.val (.int p1), .val (.int p2), .val (.int p3), .val (.int p4), .val (.int p5), .val (.int (1 : Int32)), .val (.ref b1), .val (.int p1), .val (.int p1), .val (.int (1 : Int32)), .unset] [(.int (1 : Int32))])) (fun t_ kk => XS.iconst X6.here hx rfl (hb hby at_112) kk) ?_
    refine own_st (F' := T6.setTop (mkF m 117 #[.val (.int p1), .val (.int p2), .val (.int p3), .val (.int p4), .val (.int p5), .val (.int (1 : Int32)), .val (.ref b1), .val (.int p1), .val (.int p1), .val (.int (1 : Int32)), .unset] [(.int (1 : Int32))])) (fun t_ kk => XS.goto X6.here hx rfl (pc0 := 113) (pc' := 117) rfl (hb hby at_113) (by decide) (by decide) kk) ?_
    refine own_st (F' := T6.setTop (mkF m 119 #[.val (.int p1), .val (.int p2), .val (.int p3), .val (.int p4), .val (.int p5), .val (.int (1 : Int32)), .val (.ref b1), .val (.int p1), .val (.int p1), .val (.int (1 : Int32)), .unset] [])) (fun t_ kk => XS.istore X6.here hx rfl (hb hby at_117) rfl (l' := #[.val (.int p1), .val (.int p2), .val (.int p3), .val (.int p4), .val (.int p5), .val (.int (1 : Int32)), .val (.ref b1), .val (.int p1), .val (.int p1), .val (.int (1 : Int32)), .unset]) rfl kk) ?_
    refine own_st (F' := T6.setTop (mkF m 121 #[.val (.int p1), .val (.int p2), .val (.int p3), .val (.int p4), .val (.int p5), .val (.int (1 : Int32)), .val (.ref b1), .val (.int p1), .val (.int p1), .val (.int (1 : Int32)), .unset] [(.int (1 : Int32))])) (fun t_ kk => XS.iload X6.here hx rfl (hb hby at_119) rfl kk) ?_
    refine own_st (F' := T6.setTop (mkF m 122 #[.val (.int p1), .val (.int p2), .val (.int p3), .val (.int p4), .val (.int p5), .val (.int (1 : Int32)), .val (.ref b1), .val (.int p1), .val (.int p1), .val (.int (1 : Int32)), .unset] [(.int (2 : Int32)), (.int (1 : Int32))])) (fun t_ kk => XS.iconst X6.here hx rfl (hb hby at_121) kk) ?_
    refine own_st (F' := T6.setTop (mkF m 147 #[.val (.int p1), .val (.int p2), .val (.int p3), .val (.int p4), .val (.int p5), .val (.int (1 : Int32)), .val (.ref b1), .val (.int p1), .val (.int p1), .val (.int (1 : Int32)), .unset] [])) (fun t_ kk => XS.icmpYes X6.here hx rfl (pc0 := 122) (pc' := 147) rfl (hb hby at_122) rfl (tlt (by decide : (1 : Int32) < (2 : Int32))).1 (by decide) (by decide) kk) ?_
    refine own_st (F' := T6.setTop (mkF m 149 #[.val (.int p1), .val (.int p2), .val (.int p3), .val (.int p4), .val (.int p5), .val (.int (1 : Int32)), .val (.ref b1), .val (.int p1), .val (.int p1), .val (.int (1 : Int32)), .unset] [(.int (1 : Int32))])) (fun t_ kk => XS.iload X6.here hx rfl (hb hby at_147) rfl kk) ?_
    refine own_st (F' := T6.setTop (mkF m 150 #[.val (.int p1), .val (.int p2), .val (.int p3), .val (.int p4), .val (.int p5), .val (.int (1 : Int32)), .val (.ref b1), .val (.int p1), .val (.int p1), .val (.int (1 : Int32)), .unset] [(.int (3 : Int32)), (.int (1 : Int32))])) (fun t_ kk => XS.iconst X6.here hx rfl (hb hby at_149) kk) ?_
    refine own_st (F' := T6.setTop (mkF m 175 #[.val (.int p1), .val (.int p2), .val (.int p3), .val (.int p4), .val (.int p5), .val (.int (1 : Int32)), .val (.ref b1), .val (.int p1), .val (.int p1), .val (.int (1 : Int32)), .unset] [])) (fun t_ kk => XS.icmpYes X6.here hx rfl (pc0 := 150) (pc' := 175) rfl (hb hby at_150) rfl (feq (by decide : ¬ ((1 : Int32) = (3 : Int32)))).2 (by decide) (by decide) kk) ?_
    refine own_st (F' := T6.setTop (mkF m 177 #[.val (.int p1), .val (.int p2), .val (.int p3), .val (.int p4), .val (.int p5), .val (.int (1 : Int32)), .val (.ref b1), .val (.int p1), .val (.int p1), .val (.int (1 : Int32)), .unset] [(.ref b1)])) (fun t_ kk => XS.aload X6.here hx rfl (hb hby at_175) rfl rfl kk) ?_
    refine own_st (F' := T6.setTop (mkF m 178 #[.val (.int p1), .val (.int p2), .val (.int p3), .val (.int p4), .val (.int p5), .val (.int (1 : Int32)), .val (.ref b1), .val (.int p1), .val (.int p1), .val (.int (1 : Int32)), .unset] [(.int p4), (.ref b1)])) (fun t_ kk => XS.iloadN X6.here hx rfl (hb hby at_177) rfl kk) ?_
    refine own_virt X6 hx hZ (y := (⟨"com/example/coarsen/coarsen/service/Ints", "add", "(I)I"⟩ : MethodName)) hown (hw _ (List.mem_of_getElem? (i := 13) rfl)) (hw _ (List.mem_of_getElem? (i := 14) rfl)) (hw _ (List.mem_of_getElem? (i := 16) rfl)) (hw _ (List.mem_of_getElem? (i := 15) rfl)) (hw _ (List.mem_of_getElem? (i := 3) rfl)) (hw _ (List.mem_of_getElem? (i := 17) rfl)) I5.1 (rm3 l Z a0 hw [] b1 b kb (0 : Int32) ([(.int (0 : Int32)), (.int (0 : Int32)), (.int (0 : Int32)), (.int (0 : Int32)), (.int (0 : Int32)), (.int (0 : Int32)), (.int (0 : Int32)), (.int (0 : Int32)), (.int (0 : Int32)), (.int (0 : Int32)), (.int (0 : Int32)), (.int (0 : Int32)), (.int (0 : Int32)), (.int (0 : Int32)), (.int (0 : Int32)), (.int (0 : Int32))].set 0 (.int p1)) p4 0 h5 n0 Z5 I5 g_b1 g_b (by decide) (by decide) (by decide)) (by decide) (W := 0) (argsL := [(.int p4)]) (rest := []) (by decide) (by decide) (by rw [hml]; rfl) (lenOf own_pd1 rfl) rfl rfl (Nat.le_of_eq rfl) (hb hby at_178) e6 (by decide) (by decide) ?_
    intro v7 T7 L7 hQ7 X7
    obtain ⟨rfl, N7q, Z7q, I7q⟩ := hQ7
    have N7 := Fr.app N6 N7q
    have Z7 := Nat.le_trans Z5 Z7q
    obtain ⟨h7, e7⟩ : ∃ z, T7.heap = z := ⟨_, rfl⟩
    rw [e7] at I7q Z7
    have I7 : OInts Z h7 b1 b kb (1 : Int32) (([(.int (0 : Int32)), (.int (0 : Int32)), (.int (0 : Int32)), (.int (0 : Int32)), (.int (0 : Int32)), (.int (0 : Int32)), (.int (0 : Int32)), (.int (0 : Int32)), (.int (0 : Int32)), (.int (0 : Int32)), (.int (0 : Int32)), (.int (0 : Int32)), (.int (0 : Int32)), (.int (0 : Int32)), (.int (0 : Int32)), (.int (0 : Int32))].set 0 (.int p1)).set 0 (.int p4)) := I7q
    show OWp p e below s _ _ _ (T7.setTop (mkF m 181 #[.val (.int p1), .val (.int p2), .val (.int p3), .val (.int p4), .val (.int p5), .val (.int (1 : Int32)), .val (.ref b1), .val (.int p1), .val (.int p1), .val (.int (1 : Int32)), .unset] [(.int (0 : Int32))]))
    refine own_st (F' := T7.setTop (mkF m 183 #[.val (.int p1), .val (.int p2), .val (.int p3), .val (.int p4), .val (.int p5), .val (.int (1 : Int32)), .val (.ref b1), .val (.int p1), .val (.int p1), .val (.int (1 : Int32)), .val (.int (0 : Int32))] [])) (fun t_ kk => XS.istore X7.here hx rfl (hb hby at_181) rfl (l' := #[.val (.int p1), .val (.int p2), .val (.int p3), .val (.int p4), .val (.int p5), .val (.int (1 : Int32)), .val (.ref b1), .val (.int p1), .val (.int p1), .val (.int (1 : Int32)), .val (.int (0 : Int32))]) rfl kk) ?_
    refine own_st (F' := T7.setTop (mkF m 185 #[.val (.int p1), .val (.int p2), .val (.int p3), .val (.int p4), .val (.int p5), .val (.int (1 : Int32)), .val (.ref b1), .val (.int p1), .val (.int p1), .val (.int (1 : Int32)), .val (.int (0 : Int32))] [(.int (1 : Int32))])) (fun t_ kk => XS.iload X7.here hx rfl (hb hby at_183) rfl kk) ?_
    refine own_st (F' := T7.setTop (mkF m 188 #[.val (.int p1), .val (.int p2), .val (.int p3), .val (.int p4), .val (.int p5), .val (.int (1 : Int32)), .val (.ref b1), .val (.int p1), .val (.int p1), .val (.int (1 : Int32)), .val (.int (0 : Int32))] [])) (fun t_ kk => XS.ifNo X7.here hx rfl (hb hby at_185) rfl ((if0 _ _).trans (feq (by decide : ¬ ((1 : Int32) = (0 : Int32)))).1) kk) ?_
    refine own_st (F' := T7.setTop (mkF m 190 #[.val (.int p1), .val (.int p2), .val (.int p3), .val (.int p4), .val (.int p5), .val (.int (1 : Int32)), .val (.ref b1), .val (.int p1), .val (.int p1), .val (.int (1 : Int32)), .val (.int (0 : Int32))] [(.int (0 : Int32))])) (fun t_ kk => XS.iload X7.here hx rfl (hb hby at_188) rfl kk) ?_
    refine own_st (F' := T7.setTop (mkF m 192 #[.val (.int p1), .val (.int p2), .val (.int p3), .val (.int p4), .val (.int p5), .val (.int (1 : Int32)), .val (.ref b1), .val (.int p1), .val (.int p1), .val (.int (1 : Int32)), .val (.int (0 : Int32))] [(.int (1 : Int32)), (.int (0 : Int32))])) (fun t_ kk => XS.iload X7.here hx rfl (hb hby at_190) rfl kk) ?_
    refine own_st (F' := T7.setTop (mkF m 193 #[.val (.int p1), .val (.int p2), .val (.int p3), .val (.int p4), .val (.int p5), .val (.int (1 : Int32)), .val (.ref b1), .val (.int p1), .val (.int p1), .val (.int (1 : Int32)), .val (.int (0 : Int32))] [(.int (1 : Int32)), (.int (1 : Int32)), (.int (0 : Int32))])) (fun t_ kk => XS.iconst X7.here hx rfl (hb hby at_192) kk) ?_
    refine own_st (F' := T7.setTop (mkF m 194 #[.val (.int p1), .val (.int p2), .val (.int p3), .val (.int p4), .val (.int p5), .val (.int (1 : Int32)), .val (.ref b1), .val (.int p1), .val (.int p1), .val (.int (1 : Int32)), .val (.int (0 : Int32))] [(.int (0 : Int32)), (.int (0 : Int32))])) (fun t_ kk => XS.isub X7.here hx rfl (hb hby at_193) rfl kk) ?_
    refine own_st (F' := T7.setTop (mkF m 197 #[.val (.int p1), .val (.int p2), .val (.int p3), .val (.int p4), .val (.int p5), .val (.int (1 : Int32)), .val (.ref b1), .val (.int p1), .val (.int p1), .val (.int (1 : Int32)), .val (.int (0 : Int32))] [])) (fun t_ kk => XS.icmpNo X7.here hx rfl (hb hby at_194) rfl (teq (by decide : (0 : Int32) = (0 : Int32))).2 kk) ?_
    refine own_st (F' := T7.setTop (mkF m 198 #[.val (.int p1), .val (.int p2), .val (.int p3), .val (.int p4), .val (.int p5), .val (.int (1 : Int32)), .val (.ref b1), .val (.int p1), .val (.int p1), .val (.int (1 : Int32)), .val (.int (0 : Int32))] [(.int (1 : Int32))])) (fun t_ kk => XS.iconst X7.here hx rfl (hb hby at_197) kk) ?_
    refine own_st (F' := T7.setTop (mkF m 202 #[.val (.int p1), .val (.int p2), .val (.int p3), .val (.int p4), .val (.int p5), .val (.int (1 : Int32)), .val (.ref b1), .val (.int p1), .val (.int p1), .val (.int (1 : Int32)), .val (.int (0 : Int32))] [(.int (1 : Int32))])) (fun t_ kk => XS.goto X7.here hx rfl (pc0 := 198) (pc' := 202) rfl (hb hby at_198) (by decide) (by decide) kk) ?_
    refine own_st (F' := T7.setTop (mkF m 204 #[.val (.int p1), .val (.int p2), .val (.int p3), .val (.int p4), .val (.int p5), .val (.int (1 : Int32)), .val (.ref b1), .val (.int p1), .val (.int p1), .val (.int (1 : Int32)), .val (.int (0 : Int32))] [])) (fun t_ kk => XS.istore X7.here hx rfl (hb hby at_202) rfl (l' := #[.val (.int p1), .val (.int p2), .val (.int p3), .val (.int p4), .val (.int p5), .val (.int (1 : Int32)), .val (.ref b1), .val (.int p1), .val (.int p1), .val (.int (1 : Int32)), .val (.int (0 : Int32))]) rfl kk) ?_
    refine own_st (F' := T7.setTop (mkF m 206 #[.val (.int p1), .val (.int p2), .val (.int p3), .val (.int p4), .val (.int p5), .val (.int (1 : Int32)), .val (.ref b1), .val (.int p1), .val (.int p1), .val (.int (1 : Int32)), .val (.int (0 : Int32))] [(.int (1 : Int32))])) (fun t_ kk => XS.iload X7.here hx rfl (hb hby at_204) rfl kk) ?_
    refine own_st (F' := T7.setTop (mkF m 209 #[.val (.int p1), .val (.int p2), .val (.int p3), .val (.int p4), .val (.int p5), .val (.int (1 : Int32)), .val (.ref b1), .val (.int p1), .val (.int p1), .val (.int (1 : Int32)), .val (.int (0 : Int32))] [])) (fun t_ kk => XS.ifNo X7.here hx rfl (hb hby at_206) rfl ((if0 _ _).trans (feq (by decide : ¬ ((1 : Int32) = (0 : Int32)))).1) kk) ?_
    refine own_st (F' := T7.setTop (mkF m 211 #[.val (.int p1), .val (.int p2), .val (.int p3), .val (.int p4), .val (.int p5), .val (.int (1 : Int32)), .val (.ref b1), .val (.int p1), .val (.int p1), .val (.int (1 : Int32)), .val (.int (0 : Int32))] [(.ref b1)])) (fun t_ kk => XS.aload X7.here hx rfl (hb hby at_209) rfl rfl kk) ?_
    refine own_st (F' := T7.setTop (mkF m 213 #[.val (.int p1), .val (.int p2), .val (.int p3), .val (.int p4), .val (.int p5), .val (.int (1 : Int32)), .val (.ref b1), .val (.int p1), .val (.int p1), .val (.int (1 : Int32)), .val (.int (0 : Int32))] [(.int (1 : Int32)), (.ref b1)])) (fun t_ kk => XS.iload X7.here hx rfl (hb hby at_211) rfl kk) ?_
    refine own_st (F' := T7.setTop (mkF m 214 #[.val (.int p1), .val (.int p2), .val (.int p3), .val (.int p4), .val (.int p5), .val (.int (1 : Int32)), .val (.ref b1), .val (.int p1), .val (.int p1), .val (.int (1 : Int32)), .val (.int (0 : Int32))] [(.int (1 : Int32)), (.int (1 : Int32)), (.ref b1)])) (fun t_ kk => XS.iconst X7.here hx rfl (hb hby at_213) kk) ?_
    refine own_st (F' := T7.setTop (mkF m 215 #[.val (.int p1), .val (.int p2), .val (.int p3), .val (.int p4), .val (.int p5), .val (.int (1 : Int32)), .val (.ref b1), .val (.int p1), .val (.int p1), .val (.int (1 : Int32)), .val (.int (0 : Int32))] [(.int (0 : Int32)), (.ref b1)])) (fun t_ kk => XS.isub X7.here hx rfl (hb hby at_214) rfl kk) ?_
    refine own_virt X7 hx hZ (y := (⟨"com/example/coarsen/coarsen/service/Ints", "get", "(I)I"⟩ : MethodName)) hown (hw _ (List.mem_of_getElem? (i := 30) rfl)) (hw _ (List.mem_of_getElem? (i := 31) rfl)) (hw _ (List.mem_of_getElem? (i := 33) rfl)) (hw _ (List.mem_of_getElem? (i := 32) rfl)) (hw _ (List.mem_of_getElem? (i := 3) rfl)) (hw _ (List.mem_of_getElem? (i := 34) rfl)) I7.1 (rm6 l Z a0 hw [] b1 b kb (1 : Int32) (([(.int (0 : Int32)), (.int (0 : Int32)), (.int (0 : Int32)), (.int (0 : Int32)), (.int (0 : Int32)), (.int (0 : Int32)), (.int (0 : Int32)), (.int (0 : Int32)), (.int (0 : Int32)), (.int (0 : Int32)), (.int (0 : Int32)), (.int (0 : Int32)), (.int (0 : Int32)), (.int (0 : Int32)), (.int (0 : Int32)), (.int (0 : Int32))].set 0 (.int p1)).set 0 (.int p4)) (0 : Int32) p4 h7 n0 Z7 I7 g_b1 g_b (by decide) (by decide) rfl) (by decide) (W := 0) (argsL := [(.int (0 : Int32))]) (rest := []) (by decide) (by decide) (by rw [hml]; rfl) (lenOf own_pd1 rfl) rfl rfl (Nat.le_of_eq rfl) (hb hby at_215) e7 (by decide) (by decide) ?_
    intro v8 T8 L8 hQ8 X8
    obtain ⟨rfl, N8q, e8⟩ := hQ8
    have N8 := Fr.app N7 N8q
    show OWp p e below s _ _ _ (T8.setTop (mkF m 218 #[.val (.int p1), .val (.int p2), .val (.int p3), .val (.int p4), .val (.int p5), .val (.int (1 : Int32)), .val (.ref b1), .val (.int p1), .val (.int p1), .val (.int (1 : Int32)), .val (.int (0 : Int32))] [(.int p4)]))
    refine own_st (F' := T8.setTop (mkF m 219 #[.val (.int p1), .val (.int p2), .val (.int p3), .val (.int p4), .val (.int p5), .val (.int (1 : Int32)), .val (.ref b1), .val (.int p1), .val (.int p1), .val (.int (1 : Int32)), .val (.int (0 : Int32))] [(.int p4), (.int p4)])) (fun t_ kk => XS.iloadN X8.here hx rfl (hb hby at_218) rfl kk) ?_
    refine own_st (F' := T8.setTop (mkF m 222 #[.val (.int p1), .val (.int p2), .val (.int p3), .val (.int p4), .val (.int p5), .val (.int (1 : Int32)), .val (.ref b1), .val (.int p1), .val (.int p1), .val (.int (1 : Int32)), .val (.int (0 : Int32))] [])) (fun t_ kk => XS.icmpNo X8.here hx rfl (hb hby at_219) rfl (teq (rfl : p4 = p4)).2 kk) ?_
    refine own_st (F' := T8.setTop (mkF m 223 #[.val (.int p1), .val (.int p2), .val (.int p3), .val (.int p4), .val (.int p5), .val (.int (1 : Int32)), .val (.ref b1), .val (.int p1), .val (.int p1), .val (.int (1 : Int32)), .val (.int (0 : Int32))] [(.int (1 : Int32))])) (fun t_ kk => XS.iconst X8.here hx rfl (hb hby at_222) kk) ?_
    refine own_st (F' := T8.setTop (mkF m 227 #[.val (.int p1), .val (.int p2), .val (.int p3), .val (.int p4), .val (.int p5), .val (.int (1 : Int32)), .val (.ref b1), .val (.int p1), .val (.int p1), .val (.int (1 : Int32)), .val (.int (0 : Int32))] [(.int (1 : Int32))])) (fun t_ kk => XS.goto X8.here hx rfl (pc0 := 223) (pc' := 227) rfl (hb hby at_223) (by decide) (by decide) kk) ?_
    refine own_st (F' := T8.setTop (mkF m 229 #[.val (.int p1), .val (.int p2), .val (.int p3), .val (.int p4), .val (.int p5), .val (.int (1 : Int32)), .val (.ref b1), .val (.int p1), .val (.int p1), .val (.int (1 : Int32)), .val (.int (0 : Int32))] [])) (fun t_ kk => XS.istore X8.here hx rfl (hb hby at_227) rfl (l' := #[.val (.int p1), .val (.int p2), .val (.int p3), .val (.int p4), .val (.int p5), .val (.int (1 : Int32)), .val (.ref b1), .val (.int p1), .val (.int p1), .val (.int (1 : Int32)), .val (.int (0 : Int32))]) rfl kk) ?_
    refine own_st (F' := T8.setTop (mkF m 231 #[.val (.int p1), .val (.int p2), .val (.int p3), .val (.int p4), .val (.int p5), .val (.int (1 : Int32)), .val (.ref b1), .val (.int p1), .val (.int p1), .val (.int (1 : Int32)), .val (.int (0 : Int32))] [(.int (1 : Int32))])) (fun t_ kk => XS.iload X8.here hx rfl (hb hby at_229) rfl kk) ?_
    refine own_fin X8 (some (.int (1 : Int32))) (fun h => by rw [Bd.returns] at h; cases h) Bd.notSynchronized (by decide) (by decide) (fun fs hr => retN X8 hx (t := .boolean) Bd.returns (by simp) (hb hby at_231) hr) ?_
    rw [e8]
    exact ⟨rfl, N8⟩
  · rw [hn]
    show OWp p e below s _ _ _ (s₁.setTop (mkF m 9 #[.val (.int p1), .val (.int p2), .val (.int p3), .val (.int p4), .val (.int p5), .unset, .unset, .unset, .unset, .unset, .unset] [(.int (2 : Int32))]))
    refine own_st (F' := s₁.setTop (mkF m 11 #[.val (.int p1), .val (.int p2), .val (.int p3), .val (.int p4), .val (.int p5), .val (.int (2 : Int32)), .unset, .unset, .unset, .unset, .unset] [])) (fun t_ kk => XS.istore X0.here hx rfl (hb hby at_9) rfl (l' := #[.val (.int p1), .val (.int p2), .val (.int p3), .val (.int p4), .val (.int p5), .val (.int (2 : Int32)), .unset, .unset, .unset, .unset, .unset]) rfl kk) ?_
    obtain ⟨T9, h9, X9, e9, E9, A9, D9, -, st9⟩ := newO X0 hx hZ hown (hw _ (List.mem_of_getElem? (i := 1) rfl)) (hw _ (List.mem_of_getElem? (i := 2) rfl)) (hw _ (List.mem_of_getElem? (i := 3) rfl)) e0 (g := (mkF m 11 #[.val (.int p1), .val (.int p2), .val (.int p3), .val (.int p4), .val (.int p5), .val (.int (2 : Int32)), .unset, .unset, .unset, .unset, .unset] [])) rfl (hb hby at_11) (by decide) (by decide)
    obtain ⟨b9, g9⟩ : ∃ z, z = h0.size := ⟨_, rfl⟩
    rw [← g9] at A9 D9 st9
    have g_b9 : n0 ≤ b9 := Nat.le_trans Z0 (Nat.le_of_eq g9.symm)
    have F9_values : Fld Z h9 b9 "com/example/coarsen/coarsen/service/Ints" "values" "[I" .null := D9 (Or.inl (hw _ (List.mem_of_getElem? (i := 12) rfl))) (ty := (.array .int)) (by decide)
    have F9_size : Fld Z h9 b9 "com/example/coarsen/coarsen/service/Ints" "size" "I" (.int (0 : Int32)) := D9 (Or.inl (hw _ (List.mem_of_getElem? (i := 19) rfl))) (ty := .int) (by decide)
    have Z10 := Nat.le_trans Z0 E9.1
    refine own_st (F' := T9.setTop (mkF m 14 #[.val (.int p1), .val (.int p2), .val (.int p3), .val (.int p4), .val (.int p5), .val (.int (2 : Int32)), .unset, .unset, .unset, .unset, .unset] [(.ref b9)])) st9 ?_
    refine own_st (F' := T9.setTop (mkF m 15 #[.val (.int p1), .val (.int p2), .val (.int p3), .val (.int p4), .val (.int p5), .val (.int (2 : Int32)), .unset, .unset, .unset, .unset, .unset] [(.ref b9), (.ref b9)])) (fun t_ kk => XS.dup X9.here hx rfl (hb hby at_14) rfl rfl kk) ?_
    refine own_init X9 hx hZ (y := (⟨"com/example/coarsen/coarsen/service/Ints", "<init>", "()V"⟩ : MethodName)) hown rfl (hw _ (List.mem_of_getElem? (i := 4) rfl)) (hw _ (List.mem_of_getElem? (i := 5) rfl)) (hw _ (List.mem_of_getElem? (i := 3) rfl)) (hw _ (List.mem_of_getElem? (i := 6) rfl)) (rm1 l Z a0 hw [] b9 .null h9 n0 Z10 A9 F9_values F9_size g_b9) (by decide) (W := 1) (a := b9) (argsL := []) (rest := [(.ref b9)]) (by decide) (by decide) (by rw [hml]; rfl) (lenOf own_pd0 rfl) rfl rfl (Nat.le_of_eq rfl) (hb hby at_15) e9 (by decide) (by decide) ?_
    intro v11 T11 L11 hQ11 X11
    obtain ⟨rfl, N11q, Z11q, b, kb, g_b, I11⟩ := hQ11
    have N11 := Fr.app N0 N11q
    have Z11 := Nat.le_trans Z10 Z11q
    obtain ⟨h11, e11⟩ : ∃ z, T11.heap = z := ⟨_, rfl⟩
    rw [e11] at I11 Z11
    show OWp p e below s _ _ _ (T11.setTop (mkF m 18 #[.val (.int p1), .val (.int p2), .val (.int p3), .val (.int p4), .val (.int p5), .val (.int (2 : Int32)), .unset, .unset, .unset, .unset, .unset] [(.ref b9)]))
    refine own_st (F' := T11.setTop (mkF m 20 #[.val (.int p1), .val (.int p2), .val (.int p3), .val (.int p4), .val (.int p5), .val (.int (2 : Int32)), .val (.ref b9), .unset, .unset, .unset, .unset] [])) (fun t_ kk => XS.astore X11.here hx rfl (hb hby at_18) rfl rfl (l' := #[.val (.int p1), .val (.int p2), .val (.int p3), .val (.int p4), .val (.int p5), .val (.int (2 : Int32)), .val (.ref b9), .unset, .unset, .unset, .unset]) rfl kk) ?_
    refine own_st (F' := T11.setTop (mkF m 22 #[.val (.int p1), .val (.int p2), .val (.int p3), .val (.int p4), .val (.int p5), .val (.int (2 : Int32)), .val (.ref b9), .unset, .unset, .unset, .unset] [(.ref b9)])) (fun t_ kk => XS.aload X11.here hx rfl (hb hby at_20) rfl rfl kk) ?_
    refine own_st (F' := T11.setTop (mkF m 23 #[.val (.int p1), .val (.int p2), .val (.int p3), .val (.int p4), .val (.int p5), .val (.int (2 : Int32)), .val (.ref b9), .unset, .unset, .unset, .unset] [(.int p1), (.ref b9)])) (fun t_ kk => XS.iloadN X11.here hx rfl (hb hby at_22) rfl kk) ?_
    refine own_virt X11 hx hZ (y := (⟨"com/example/coarsen/coarsen/service/Ints", "add", "(I)I"⟩ : MethodName)) hown (hw _ (List.mem_of_getElem? (i := 13) rfl)) (hw _ (List.mem_of_getElem? (i := 14) rfl)) (hw _ (List.mem_of_getElem? (i := 16) rfl)) (hw _ (List.mem_of_getElem? (i := 15) rfl)) (hw _ (List.mem_of_getElem? (i := 3) rfl)) (hw _ (List.mem_of_getElem? (i := 17) rfl)) I11.1 (rm3 l Z a0 hw [] b9 b kb (0 : Int32) [(.int (0 : Int32)), (.int (0 : Int32)), (.int (0 : Int32)), (.int (0 : Int32)), (.int (0 : Int32)), (.int (0 : Int32)), (.int (0 : Int32)), (.int (0 : Int32)), (.int (0 : Int32)), (.int (0 : Int32)), (.int (0 : Int32)), (.int (0 : Int32)), (.int (0 : Int32)), (.int (0 : Int32)), (.int (0 : Int32)), (.int (0 : Int32))] p1 0 h11 n0 Z11 I11 g_b9 g_b (by decide) (by decide) (by decide)) (by decide) (W := 0) (argsL := [(.int p1)]) (rest := []) (by decide) (by decide) (by rw [hml]; rfl) (lenOf own_pd1 rfl) rfl rfl (Nat.le_of_eq rfl) (hb hby at_23) e11 (by decide) (by decide) ?_
    intro v12 T12 L12 hQ12 X12
    obtain ⟨rfl, N12q, Z12q, I12q⟩ := hQ12
    have N12 := Fr.app N11 N12q
    have Z12 := Nat.le_trans Z11 Z12q
    obtain ⟨h12, e12⟩ : ∃ z, T12.heap = z := ⟨_, rfl⟩
    rw [e12] at I12q Z12
    have I12 : OInts Z h12 b9 b kb (1 : Int32) ([(.int (0 : Int32)), (.int (0 : Int32)), (.int (0 : Int32)), (.int (0 : Int32)), (.int (0 : Int32)), (.int (0 : Int32)), (.int (0 : Int32)), (.int (0 : Int32)), (.int (0 : Int32)), (.int (0 : Int32)), (.int (0 : Int32)), (.int (0 : Int32)), (.int (0 : Int32)), (.int (0 : Int32)), (.int (0 : Int32)), (.int (0 : Int32))].set 0 (.int p1)) := I12q
    show OWp p e below s _ _ _ (T12.setTop (mkF m 26 #[.val (.int p1), .val (.int p2), .val (.int p3), .val (.int p4), .val (.int p5), .val (.int (2 : Int32)), .val (.ref b9), .unset, .unset, .unset, .unset] [(.int (0 : Int32))]))
    refine own_st (F' := T12.setTop (mkF m 27 #[.val (.int p1), .val (.int p2), .val (.int p3), .val (.int p4), .val (.int p5), .val (.int (2 : Int32)), .val (.ref b9), .unset, .unset, .unset, .unset] [])) (fun t_ kk => XS.pop X12.here hx rfl (hb hby at_26) rfl rfl kk) ?_
    refine own_st (F' := T12.setTop (mkF m 29 #[.val (.int p1), .val (.int p2), .val (.int p3), .val (.int p4), .val (.int p5), .val (.int (2 : Int32)), .val (.ref b9), .unset, .unset, .unset, .unset] [(.int (2 : Int32))])) (fun t_ kk => XS.iload X12.here hx rfl (hb hby at_27) rfl kk) ?_
    refine own_st (F' := T12.setTop (mkF m 30 #[.val (.int p1), .val (.int p2), .val (.int p3), .val (.int p4), .val (.int p5), .val (.int (2 : Int32)), .val (.ref b9), .unset, .unset, .unset, .unset] [(.int (2 : Int32)), (.int (2 : Int32))])) (fun t_ kk => XS.iconst X12.here hx rfl (hb hby at_29) kk) ?_
    refine own_st (F' := T12.setTop (mkF m 33 #[.val (.int p1), .val (.int p2), .val (.int p3), .val (.int p4), .val (.int p5), .val (.int (2 : Int32)), .val (.ref b9), .unset, .unset, .unset, .unset] [])) (fun t_ kk => XS.icmpNo X12.here hx rfl (hb hby at_30) rfl (flt (by decide : ¬ ((2 : Int32) < (2 : Int32)))).1 kk) ?_
    refine own_st (F' := T12.setTop (mkF m 35 #[.val (.int p1), .val (.int p2), .val (.int p3), .val (.int p4), .val (.int p5), .val (.int (2 : Int32)), .val (.ref b9), .unset, .unset, .unset, .unset] [(.ref b9)])) (fun t_ kk => XS.aload X12.here hx rfl (hb hby at_33) rfl rfl kk) ?_
    refine own_st (F' := T12.setTop (mkF m 36 #[.val (.int p1), .val (.int p2), .val (.int p3), .val (.int p4), .val (.int p5), .val (.int (2 : Int32)), .val (.ref b9), .unset, .unset, .unset, .unset] [(.int p2), (.ref b9)])) (fun t_ kk => XS.iloadN X12.here hx rfl (hb hby at_35) rfl kk) ?_
    refine own_virt X12 hx hZ (y := (⟨"com/example/coarsen/coarsen/service/Ints", "add", "(I)I"⟩ : MethodName)) hown (hw _ (List.mem_of_getElem? (i := 13) rfl)) (hw _ (List.mem_of_getElem? (i := 14) rfl)) (hw _ (List.mem_of_getElem? (i := 16) rfl)) (hw _ (List.mem_of_getElem? (i := 15) rfl)) (hw _ (List.mem_of_getElem? (i := 3) rfl)) (hw _ (List.mem_of_getElem? (i := 17) rfl)) I12.1 (rm3 l Z a0 hw [] b9 b kb (1 : Int32) ([(.int (0 : Int32)), (.int (0 : Int32)), (.int (0 : Int32)), (.int (0 : Int32)), (.int (0 : Int32)), (.int (0 : Int32)), (.int (0 : Int32)), (.int (0 : Int32)), (.int (0 : Int32)), (.int (0 : Int32)), (.int (0 : Int32)), (.int (0 : Int32)), (.int (0 : Int32)), (.int (0 : Int32)), (.int (0 : Int32)), (.int (0 : Int32))].set 0 (.int p1)) p2 1 h12 n0 Z12 I12 g_b9 g_b (by decide) (by decide) (by decide)) (by decide) (W := 0) (argsL := [(.int p2)]) (rest := []) (by decide) (by decide) (by rw [hml]; rfl) (lenOf own_pd1 rfl) rfl rfl (Nat.le_of_eq rfl) (hb hby at_36) e12 (by decide) (by decide) ?_
    intro v13 T13 L13 hQ13 X13
    obtain ⟨rfl, N13q, Z13q, I13q⟩ := hQ13
    have N13 := Fr.app N12 N13q
    have Z13 := Nat.le_trans Z12 Z13q
    obtain ⟨h13, e13⟩ : ∃ z, T13.heap = z := ⟨_, rfl⟩
    rw [e13] at I13q Z13
    have I13 : OInts Z h13 b9 b kb (2 : Int32) (([(.int (0 : Int32)), (.int (0 : Int32)), (.int (0 : Int32)), (.int (0 : Int32)), (.int (0 : Int32)), (.int (0 : Int32)), (.int (0 : Int32)), (.int (0 : Int32)), (.int (0 : Int32)), (.int (0 : Int32)), (.int (0 : Int32)), (.int (0 : Int32)), (.int (0 : Int32)), (.int (0 : Int32)), (.int (0 : Int32)), (.int (0 : Int32))].set 0 (.int p1)).set 1 (.int p2)) := I13q
    show OWp p e below s _ _ _ (T13.setTop (mkF m 39 #[.val (.int p1), .val (.int p2), .val (.int p3), .val (.int p4), .val (.int p5), .val (.int (2 : Int32)), .val (.ref b9), .unset, .unset, .unset, .unset] [(.int (1 : Int32))]))
    refine own_st (F' := T13.setTop (mkF m 40 #[.val (.int p1), .val (.int p2), .val (.int p3), .val (.int p4), .val (.int p5), .val (.int (2 : Int32)), .val (.ref b9), .unset, .unset, .unset, .unset] [])) (fun t_ kk => XS.pop X13.here hx rfl (hb hby at_39) rfl rfl kk) ?_
    refine own_st (F' := T13.setTop (mkF m 42 #[.val (.int p1), .val (.int p2), .val (.int p3), .val (.int p4), .val (.int p5), .val (.int (2 : Int32)), .val (.ref b9), .unset, .unset, .unset, .unset] [(.int (2 : Int32))])) (fun t_ kk => XS.iload X13.here hx rfl (hb hby at_40) rfl kk) ?_
    refine own_st (F' := T13.setTop (mkF m 43 #[.val (.int p1), .val (.int p2), .val (.int p3), .val (.int p4), .val (.int p5), .val (.int (2 : Int32)), .val (.ref b9), .unset, .unset, .unset, .unset] [(.int (3 : Int32)), (.int (2 : Int32))])) (fun t_ kk => XS.iconst X13.here hx rfl (hb hby at_42) kk) ?_
    refine own_st (F' := T13.setTop (mkF m 53 #[.val (.int p1), .val (.int p2), .val (.int p3), .val (.int p4), .val (.int p5), .val (.int (2 : Int32)), .val (.ref b9), .unset, .unset, .unset, .unset] [])) (fun t_ kk => XS.icmpYes X13.here hx rfl (pc0 := 43) (pc' := 53) rfl (hb hby at_43) rfl (tlt (by decide : (2 : Int32) < (3 : Int32))).1 (by decide) (by decide) kk) ?_
    refine own_st (F' := T13.setTop (mkF m 54 #[.val (.int p1), .val (.int p2), .val (.int p3), .val (.int p4), .val (.int p5), .val (.int (2 : Int32)), .val (.ref b9), .unset, .unset, .unset, .unset] [(.int p1)])) (fun t_ kk => XS.iloadN X13.here hx rfl (hb hby at_53) rfl kk) ?_
    refine own_st (F' := T13.setTop (mkF m 56 #[.val (.int p1), .val (.int p2), .val (.int p3), .val (.int p4), .val (.int p5), .val (.int (2 : Int32)), .val (.ref b9), .val (.int p1), .unset, .unset, .unset] [])) (fun t_ kk => XS.istore X13.here hx rfl (hb hby at_54) rfl (l' := #[.val (.int p1), .val (.int p2), .val (.int p3), .val (.int p4), .val (.int p5), .val (.int (2 : Int32)), .val (.ref b9), .val (.int p1), .unset, .unset, .unset]) rfl kk) ?_
    refine own_st (F' := T13.setTop (mkF m 58 #[.val (.int p1), .val (.int p2), .val (.int p3), .val (.int p4), .val (.int p5), .val (.int (2 : Int32)), .val (.ref b9), .val (.int p1), .unset, .unset, .unset] [(.int (2 : Int32))])) (fun t_ kk => XS.iload X13.here hx rfl (hb hby at_56) rfl kk) ?_
    refine own_st (F' := T13.setTop (mkF m 59 #[.val (.int p1), .val (.int p2), .val (.int p3), .val (.int p4), .val (.int p5), .val (.int (2 : Int32)), .val (.ref b9), .val (.int p1), .unset, .unset, .unset] [(.int (2 : Int32)), (.int (2 : Int32))])) (fun t_ kk => XS.iconst X13.here hx rfl (hb hby at_58) kk) ?_
    refine own_st (F' := T13.setTop (mkF m 62 #[.val (.int p1), .val (.int p2), .val (.int p3), .val (.int p4), .val (.int p5), .val (.int (2 : Int32)), .val (.ref b9), .val (.int p1), .unset, .unset, .unset] [])) (fun t_ kk => XS.icmpNo X13.here hx rfl (hb hby at_59) rfl (teq (by decide : (2 : Int32) = (2 : Int32))).2 kk) ?_
    refine own_st (F' := T13.setTop (mkF m 63 #[.val (.int p1), .val (.int p2), .val (.int p3), .val (.int p4), .val (.int p5), .val (.int (2 : Int32)), .val (.ref b9), .val (.int p1), .unset, .unset, .unset] [(.int p2)])) (fun t_ kk => XS.iloadN X13.here hx rfl (hb hby at_62) rfl kk) ?_
    refine own_st (F' := T13.setTop (mkF m 65 #[.val (.int p1), .val (.int p2), .val (.int p3), .val (.int p4), .val (.int p5), .val (.int (2 : Int32)), .val (.ref b9), .val (.int p2), .unset, .unset, .unset] [])) (fun t_ kk => XS.istore X13.here hx rfl (hb hby at_63) rfl (l' := #[.val (.int p1), .val (.int p2), .val (.int p3), .val (.int p4), .val (.int p5), .val (.int (2 : Int32)), .val (.ref b9), .val (.int p2), .unset, .unset, .unset]) rfl kk) ?_
    refine own_st (F' := T13.setTop (mkF m 67 #[.val (.int p1), .val (.int p2), .val (.int p3), .val (.int p4), .val (.int p5), .val (.int (2 : Int32)), .val (.ref b9), .val (.int p2), .unset, .unset, .unset] [(.int (2 : Int32))])) (fun t_ kk => XS.iload X13.here hx rfl (hb hby at_65) rfl kk) ?_
    refine own_st (F' := T13.setTop (mkF m 68 #[.val (.int p1), .val (.int p2), .val (.int p3), .val (.int p4), .val (.int p5), .val (.int (2 : Int32)), .val (.ref b9), .val (.int p2), .unset, .unset, .unset] [(.int (3 : Int32)), (.int (2 : Int32))])) (fun t_ kk => XS.iconst X13.here hx rfl (hb hby at_67) kk) ?_
    refine own_st (F' := T13.setTop (mkF m 74 #[.val (.int p1), .val (.int p2), .val (.int p3), .val (.int p4), .val (.int p5), .val (.int (2 : Int32)), .val (.ref b9), .val (.int p2), .unset, .unset, .unset] [])) (fun t_ kk => XS.icmpYes X13.here hx rfl (pc0 := 68) (pc' := 74) rfl (hb hby at_68) rfl (feq (by decide : ¬ ((2 : Int32) = (3 : Int32)))).2 (by decide) (by decide) kk) ?_
    refine own_st (F' := T13.setTop (mkF m 76 #[.val (.int p1), .val (.int p2), .val (.int p3), .val (.int p4), .val (.int p5), .val (.int (2 : Int32)), .val (.ref b9), .val (.int p2), .unset, .unset, .unset] [(.ref b9)])) (fun t_ kk => XS.aload X13.here hx rfl (hb hby at_74) rfl rfl kk) ?_
    refine own_virt X13 hx hZ (y := (⟨"com/example/coarsen/coarsen/service/Ints", "removeLast", "()I"⟩ : MethodName)) hown (hw _ (List.mem_of_getElem? (i := 20) rfl)) (hw _ (List.mem_of_getElem? (i := 21) rfl)) (hw _ (List.mem_of_getElem? (i := 23) rfl)) (hw _ (List.mem_of_getElem? (i := 22) rfl)) (hw _ (List.mem_of_getElem? (i := 3) rfl)) (hw _ (List.mem_of_getElem? (i := 24) rfl)) I13.1 (rm4 l Z a0 hw [] b9 b kb (2 : Int32) (([(.int (0 : Int32)), (.int (0 : Int32)), (.int (0 : Int32)), (.int (0 : Int32)), (.int (0 : Int32)), (.int (0 : Int32)), (.int (0 : Int32)), (.int (0 : Int32)), (.int (0 : Int32)), (.int (0 : Int32)), (.int (0 : Int32)), (.int (0 : Int32)), (.int (0 : Int32)), (.int (0 : Int32)), (.int (0 : Int32)), (.int (0 : Int32))].set 0 (.int p1)).set 1 (.int p2)) p2 h13 n0 Z13 I13 g_b9 g_b (by decide) (by decide) rfl) (by decide) (W := 0) (argsL := []) (rest := []) (by decide) (by decide) (by rw [hml]; rfl) (lenOf own_pd2 rfl) rfl rfl (Nat.le_of_eq rfl) (hb hby at_76) e13 (by decide) (by decide) ?_
    intro v14 T14 L14 hQ14 X14
    obtain ⟨rfl, N14q, Z14q, I14q⟩ := hQ14
    have N14 := Fr.app N13 N14q
    have Z14 := Nat.le_trans Z13 Z14q
    obtain ⟨h14, e14⟩ : ∃ z, T14.heap = z := ⟨_, rfl⟩
    rw [e14] at I14q Z14
    have I14 : OInts Z h14 b9 b kb (1 : Int32) (([(.int (0 : Int32)), (.int (0 : Int32)), (.int (0 : Int32)), (.int (0 : Int32)), (.int (0 : Int32)), (.int (0 : Int32)), (.int (0 : Int32)), (.int (0 : Int32)), (.int (0 : Int32)), (.int (0 : Int32)), (.int (0 : Int32)), (.int (0 : Int32)), (.int (0 : Int32)), (.int (0 : Int32)), (.int (0 : Int32)), (.int (0 : Int32))].set 0 (.int p1)).set 1 (.int p2)) := I14q
    show OWp p e below s _ _ _ (T14.setTop (mkF m 79 #[.val (.int p1), .val (.int p2), .val (.int p3), .val (.int p4), .val (.int p5), .val (.int (2 : Int32)), .val (.ref b9), .val (.int p2), .unset, .unset, .unset] [(.int p2)]))
    refine own_st (F' := T14.setTop (mkF m 81 #[.val (.int p1), .val (.int p2), .val (.int p3), .val (.int p4), .val (.int p5), .val (.int (2 : Int32)), .val (.ref b9), .val (.int p2), .val (.int p2), .unset, .unset] [])) (fun t_ kk => XS.istore X14.here hx rfl (hb hby at_79) rfl (l' := #[.val (.int p1), .val (.int p2), .val (.int p3), .val (.int p4), .val (.int p5), .val (.int (2 : Int32)), .val (.ref b9), .val (.int p2), .val (.int p2), .unset, .unset]) rfl kk) ?_
    refine own_st (F' := T14.setTop (mkF m 83 #[.val (.int p1), .val (.int p2), .val (.int p3), .val (.int p4), .val (.int p5), .val (.int (2 : Int32)), .val (.ref b9), .val (.int p2), .val (.int p2), .unset, .unset] [(.int p2)])) (fun t_ kk => XS.iload X14.here hx rfl (hb hby at_81) rfl kk) ?_
    refine own_st (F' := T14.setTop (mkF m 85 #[.val (.int p1), .val (.int p2), .val (.int p3), .val (.int p4), .val (.int p5), .val (.int (2 : Int32)), .val (.ref b9), .val (.int p2), .val (.int p2), .unset, .unset] [(.int p2), (.int p2)])) (fun t_ kk => XS.iload X14.here hx rfl (hb hby at_83) rfl kk) ?_
    refine own_st (F' := T14.setTop (mkF m 88 #[.val (.int p1), .val (.int p2), .val (.int p3), .val (.int p4), .val (.int p5), .val (.int (2 : Int32)), .val (.ref b9), .val (.int p2), .val (.int p2), .unset, .unset] [])) (fun t_ kk => XS.icmpNo X14.here hx rfl (hb hby at_85) rfl (teq (rfl : p2 = p2)).2 kk) ?_
    refine own_st (F' := T14.setTop (mkF m 89 #[.val (.int p1), .val (.int p2), .val (.int p3), .val (.int p4), .val (.int p5), .val (.int (2 : Int32)), .val (.ref b9), .val (.int p2), .val (.int p2), .unset, .unset] [(.int (1 : Int32))])) (fun t_ kk => XS.iconst X14.here hx rfl (hb hby at_88) kk) ?_
    refine own_st (F' := T14.setTop (mkF m 93 #[.val (.int p1), .val (.int p2), .val (.int p3), .val (.int p4), .val (.int p5), .val (.int (2 : Int32)), .val (.ref b9), .val (.int p2), .val (.int p2), .unset, .unset] [(.int (1 : Int32))])) (fun t_ kk => XS.goto X14.here hx rfl (pc0 := 89) (pc' := 93) rfl (hb hby at_89) (by decide) (by decide) kk) ?_
    refine own_st (F' := T14.setTop (mkF m 95 #[.val (.int p1), .val (.int p2), .val (.int p3), .val (.int p4), .val (.int p5), .val (.int (2 : Int32)), .val (.ref b9), .val (.int p2), .val (.int p2), .val (.int (1 : Int32)), .unset] [])) (fun t_ kk => XS.istore X14.here hx rfl (hb hby at_93) rfl (l' := #[.val (.int p1), .val (.int p2), .val (.int p3), .val (.int p4), .val (.int p5), .val (.int (2 : Int32)), .val (.ref b9), .val (.int p2), .val (.int p2), .val (.int (1 : Int32)), .unset]) rfl kk) ?_
    refine own_st (F' := T14.setTop (mkF m 97 #[.val (.int p1), .val (.int p2), .val (.int p3), .val (.int p4), .val (.int p5), .val (.int (2 : Int32)), .val (.ref b9), .val (.int p2), .val (.int p2), .val (.int (1 : Int32)), .unset] [(.int (1 : Int32))])) (fun t_ kk => XS.iload X14.here hx rfl (hb hby at_95) rfl kk) ?_
    refine own_st (F' := T14.setTop (mkF m 100 #[.val (.int p1), .val (.int p2), .val (.int p3), .val (.int p4), .val (.int p5), .val (.int (2 : Int32)), .val (.ref b9), .val (.int p2), .val (.int p2), .val (.int (1 : Int32)), .unset] [])) (fun t_ kk => XS.ifNo X14.here hx rfl (hb hby at_97) rfl ((if0 _ _).trans (feq (by decide : ¬ ((1 : Int32) = (0 : Int32)))).1) kk) ?_
    refine own_st (F' := T14.setTop (mkF m 102 #[.val (.int p1), .val (.int p2), .val (.int p3), .val (.int p4), .val (.int p5), .val (.int (2 : Int32)), .val (.ref b9), .val (.int p2), .val (.int p2), .val (.int (1 : Int32)), .unset] [(.ref b9)])) (fun t_ kk => XS.aload X14.here hx rfl (hb hby at_100) rfl rfl kk) ?_
    refine own_virt X14 hx hZ (y := (⟨"com/example/coarsen/coarsen/service/Ints", "size", "()I"⟩ : MethodName)) hown (hw _ (List.mem_of_getElem? (i := 25) rfl)) (hw _ (List.mem_of_getElem? (i := 26) rfl)) (hw _ (List.mem_of_getElem? (i := 28) rfl)) (hw _ (List.mem_of_getElem? (i := 27) rfl)) (hw _ (List.mem_of_getElem? (i := 3) rfl)) (hw _ (List.mem_of_getElem? (i := 29) rfl)) I14.1 (rm5 l Z a0 hw [] b9 b kb (1 : Int32) (([(.int (0 : Int32)), (.int (0 : Int32)), (.int (0 : Int32)), (.int (0 : Int32)), (.int (0 : Int32)), (.int (0 : Int32)), (.int (0 : Int32)), (.int (0 : Int32)), (.int (0 : Int32)), (.int (0 : Int32)), (.int (0 : Int32)), (.int (0 : Int32)), (.int (0 : Int32)), (.int (0 : Int32)), (.int (0 : Int32)), (.int (0 : Int32))].set 0 (.int p1)).set 1 (.int p2)) h14 n0 Z14 I14 g_b9 g_b) (by decide) (W := 0) (argsL := []) (rest := []) (by decide) (by decide) (by rw [hml]; rfl) (lenOf own_pd2 rfl) rfl rfl (Nat.le_of_eq rfl) (hb hby at_102) e14 (by decide) (by decide) ?_
    intro v15 T15 L15 hQ15 X15
    obtain ⟨rfl, N15q, e15⟩ := hQ15
    have N15 := Fr.app N14 N15q
    show OWp p e below s _ _ _ (T15.setTop (mkF m 105 #[.val (.int p1), .val (.int p2), .val (.int p3), .val (.int p4), .val (.int p5), .val (.int (2 : Int32)), .val (.ref b9), .val (.int p2), .val (.int p2), .val (.int (1 : Int32)), .unset] [(.int (1 : Int32))]))
    refine own_st (F' := T15.setTop (mkF m 107 #[.val (.int p1), .val (.int p2), .val (.int p3), .val (.int p4), .val (.int p5), .val (.int (2 : Int32)), .val (.ref b9), .val (.int p2), .val (.int p2), .val (.int (1 : Int32)), .unset] [(.int (2 : Int32)), (.int (1 : Int32))])) (fun t_ kk => XS.iload X15.here hx rfl (hb hby at_105) rfl kk) ?_
    refine own_st (F' := T15.setTop (mkF m 108 #[.val (.int p1), .val (.int p2), .val (.int p3), .val (.int p4), .val (.int p5), .val (.int (2 : Int32)), .val (.ref b9), .val (.int p2), .val (.int p2), .val (.int (1 : Int32)), .unset] [(.int (1 : Int32)), (.int (2 : Int32)), (.int (1 : Int32))])) (fun t_ kk => XS.iconst X15.here hx rfl (hb hby at_107) kk) ?_
    refine own_st (F' := T15.setTop (mkF m 109 #[.val (.int p1), .val (.int p2), .val (.int p3), .val (.int p4), .val (.int p5), .val (.int (2 : Int32)), .val (.ref b9), .val (.int p2), .val (.int p2), .val (.int (1 : Int32)), .unset] [(.int (1 : Int32)), (.int (1 : Int32))])) (fun t_ kk => XS.isub X15.here hx rfl (hb hby at_108) rfl kk) ?_
    refine own_st (F' := T15.setTop (mkF m 112 #[.val (.int p1), .val (.int p2), .val (.int p3), .val (.int p4), .val (.int p5), .val (.int (2 : Int32)), .val (.ref b9), .val (.int p2), .val (.int p2), .val (.int (1 : Int32)), .unset] [])) (fun t_ kk => XS.icmpNo X15.here hx rfl (hb hby at_109) rfl (teq (by decide : (1 : Int32) = (1 : Int32))).2 kk) ?_
    refine own_st (F' := T15.setTop (mkF m 113 #[.val (.int p1), .val (.int p2), .val (.int p3), .val (.int p4), .val (.int p5), .val (.int (2 : Int32)), .val (.ref b9), .val (.int p2), .val (.int p2), .val (.int (1 : Int32)), .unset] [(.int (1 : Int32))])) (fun t_ kk => XS.iconst X15.here hx rfl (hb hby at_112) kk) ?_
    refine own_st (F' := T15.setTop (mkF m 117 #[.val (.int p1), .val (.int p2), .val (.int p3), .val (.int p4), .val (.int p5), .val (.int (2 : Int32)), .val (.ref b9), .val (.int p2), .val (.int p2), .val (.int (1 : Int32)), .unset] [(.int (1 : Int32))])) (fun t_ kk => XS.goto X15.here hx rfl (pc0 := 113) (pc' := 117) rfl (hb hby at_113) (by decide) (by decide) kk) ?_
    refine own_st (F' := T15.setTop (mkF m 119 #[.val (.int p1), .val (.int p2), .val (.int p3), .val (.int p4), .val (.int p5), .val (.int (2 : Int32)), .val (.ref b9), .val (.int p2), .val (.int p2), .val (.int (1 : Int32)), .unset] [])) (fun t_ kk => XS.istore X15.here hx rfl (hb hby at_117) rfl (l' := #[.val (.int p1), .val (.int p2), .val (.int p3), .val (.int p4), .val (.int p5), .val (.int (2 : Int32)), .val (.ref b9), .val (.int p2), .val (.int p2), .val (.int (1 : Int32)), .unset]) rfl kk) ?_
    refine own_st (F' := T15.setTop (mkF m 121 #[.val (.int p1), .val (.int p2), .val (.int p3), .val (.int p4), .val (.int p5), .val (.int (2 : Int32)), .val (.ref b9), .val (.int p2), .val (.int p2), .val (.int (1 : Int32)), .unset] [(.int (2 : Int32))])) (fun t_ kk => XS.iload X15.here hx rfl (hb hby at_119) rfl kk) ?_
    refine own_st (F' := T15.setTop (mkF m 122 #[.val (.int p1), .val (.int p2), .val (.int p3), .val (.int p4), .val (.int p5), .val (.int (2 : Int32)), .val (.ref b9), .val (.int p2), .val (.int p2), .val (.int (1 : Int32)), .unset] [(.int (2 : Int32)), (.int (2 : Int32))])) (fun t_ kk => XS.iconst X15.here hx rfl (hb hby at_121) kk) ?_
    refine own_st (F' := T15.setTop (mkF m 125 #[.val (.int p1), .val (.int p2), .val (.int p3), .val (.int p4), .val (.int p5), .val (.int (2 : Int32)), .val (.ref b9), .val (.int p2), .val (.int p2), .val (.int (1 : Int32)), .unset] [])) (fun t_ kk => XS.icmpNo X15.here hx rfl (hb hby at_122) rfl (flt (by decide : ¬ ((2 : Int32) < (2 : Int32)))).1 kk) ?_
    refine own_st (F' := T15.setTop (mkF m 127 #[.val (.int p1), .val (.int p2), .val (.int p3), .val (.int p4), .val (.int p5), .val (.int (2 : Int32)), .val (.ref b9), .val (.int p2), .val (.int p2), .val (.int (1 : Int32)), .unset] [(.int (1 : Int32))])) (fun t_ kk => XS.iload X15.here hx rfl (hb hby at_125) rfl kk) ?_
    refine own_st (F' := T15.setTop (mkF m 130 #[.val (.int p1), .val (.int p2), .val (.int p3), .val (.int p4), .val (.int p5), .val (.int (2 : Int32)), .val (.ref b9), .val (.int p2), .val (.int p2), .val (.int (1 : Int32)), .unset] [])) (fun t_ kk => XS.ifNo X15.here hx rfl (hb hby at_127) rfl ((if0 _ _).trans (feq (by decide : ¬ ((1 : Int32) = (0 : Int32)))).1) kk) ?_
    refine own_st (F' := T15.setTop (mkF m 132 #[.val (.int p1), .val (.int p2), .val (.int p3), .val (.int p4), .val (.int p5), .val (.int (2 : Int32)), .val (.ref b9), .val (.int p2), .val (.int p2), .val (.int (1 : Int32)), .unset] [(.ref b9)])) (fun t_ kk => XS.aload X15.here hx rfl (hb hby at_130) rfl rfl kk) ?_
    refine own_st (F' := T15.setTop (mkF m 133 #[.val (.int p1), .val (.int p2), .val (.int p3), .val (.int p4), .val (.int p5), .val (.int (2 : Int32)), .val (.ref b9), .val (.int p2), .val (.int p2), .val (.int (1 : Int32)), .unset] [(.int (0 : Int32)), (.ref b9)])) (fun t_ kk => XS.iconst X15.here hx rfl (hb hby at_132) kk) ?_
    refine own_virt X15 hx hZ (y := (⟨"com/example/coarsen/coarsen/service/Ints", "get", "(I)I"⟩ : MethodName)) hown (hw _ (List.mem_of_getElem? (i := 30) rfl)) (hw _ (List.mem_of_getElem? (i := 31) rfl)) (hw _ (List.mem_of_getElem? (i := 33) rfl)) (hw _ (List.mem_of_getElem? (i := 32) rfl)) (hw _ (List.mem_of_getElem? (i := 3) rfl)) (hw _ (List.mem_of_getElem? (i := 34) rfl)) I14.1 (rm6 l Z a0 hw [] b9 b kb (1 : Int32) (([(.int (0 : Int32)), (.int (0 : Int32)), (.int (0 : Int32)), (.int (0 : Int32)), (.int (0 : Int32)), (.int (0 : Int32)), (.int (0 : Int32)), (.int (0 : Int32)), (.int (0 : Int32)), (.int (0 : Int32)), (.int (0 : Int32)), (.int (0 : Int32)), (.int (0 : Int32)), (.int (0 : Int32)), (.int (0 : Int32)), (.int (0 : Int32))].set 0 (.int p1)).set 1 (.int p2)) (0 : Int32) p1 h14 n0 Z14 I14 g_b9 g_b (by decide) (by decide) rfl) (by decide) (W := 0) (argsL := [(.int (0 : Int32))]) (rest := []) (by decide) (by decide) (by rw [hml]; rfl) (lenOf own_pd1 rfl) rfl rfl (Nat.le_of_eq rfl) (hb hby at_133) e15 (by decide) (by decide) ?_
    intro v16 T16 L16 hQ16 X16
    obtain ⟨rfl, N16q, e16⟩ := hQ16
    have N16 := Fr.app N15 N16q
    show OWp p e below s _ _ _ (T16.setTop (mkF m 136 #[.val (.int p1), .val (.int p2), .val (.int p3), .val (.int p4), .val (.int p5), .val (.int (2 : Int32)), .val (.ref b9), .val (.int p2), .val (.int p2), .val (.int (1 : Int32)), .unset] [(.int p1)]))
    refine own_st (F' := T16.setTop (mkF m 137 #[.val (.int p1), .val (.int p2), .val (.int p3), .val (.int p4), .val (.int p5), .val (.int (2 : Int32)), .val (.ref b9), .val (.int p2), .val (.int p2), .val (.int (1 : Int32)), .unset] [(.int p1), (.int p1)])) (fun t_ kk => XS.iloadN X16.here hx rfl (hb hby at_136) rfl kk) ?_
    refine own_st (F' := T16.setTop (mkF m 140 #[.val (.int p1), .val (.int p2), .val (.int p3), .val (.int p4), .val (.int p5), .val (.int (2 : Int32)), .val (.ref b9), .val (.int p2), .val (.int p2), .val (.int (1 : Int32)), .unset] [])) (fun t_ kk => XS.icmpNo X16.here hx rfl (hb hby at_137) rfl (teq (rfl : p1 = p1)).2 kk) ?_
    refine own_st (F' := T16.setTop (mkF m 141 #[.val (.int p1), .val (.int p2), .val (.int p3), .val (.int p4), .val (.int p5), .val (.int (2 : Int32)), .val (.ref b9), .val (.int p2), .val (.int p2), .val (.int (1 : Int32)), .unset] [(.int (1 : Int32))])) (fun t_ kk => XS.iconst X16.here hx rfl (hb hby at_140) kk) ?_
    refine own_st (F' := T16.setTop (mkF m 145 #[.val (.int p1), .val (.int p2), .val (.int p3), .val (.int p4), .val (.int p5), .val (.int (2 : Int32)), .val (.ref b9), .val (.int p2), .val (.int p2), .val (.int (1 : Int32)), .unset] [(.int (1 : Int32))])) (fun t_ kk => XS.goto X16.here hx rfl (pc0 := 141) (pc' := 145) rfl (hb hby at_141) (by decide) (by decide) kk) ?_
    refine own_st (F' := T16.setTop (mkF m 147 #[.val (.int p1), .val (.int p2), .val (.int p3), .val (.int p4), .val (.int p5), .val (.int (2 : Int32)), .val (.ref b9), .val (.int p2), .val (.int p2), .val (.int (1 : Int32)), .unset] [])) (fun t_ kk => XS.istore X16.here hx rfl (hb hby at_145) rfl (l' := #[.val (.int p1), .val (.int p2), .val (.int p3), .val (.int p4), .val (.int p5), .val (.int (2 : Int32)), .val (.ref b9), .val (.int p2), .val (.int p2), .val (.int (1 : Int32)), .unset]) rfl kk) ?_
    refine own_st (F' := T16.setTop (mkF m 149 #[.val (.int p1), .val (.int p2), .val (.int p3), .val (.int p4), .val (.int p5), .val (.int (2 : Int32)), .val (.ref b9), .val (.int p2), .val (.int p2), .val (.int (1 : Int32)), .unset] [(.int (2 : Int32))])) (fun t_ kk => XS.iload X16.here hx rfl (hb hby at_147) rfl kk) ?_
    refine own_st (F' := T16.setTop (mkF m 150 #[.val (.int p1), .val (.int p2), .val (.int p3), .val (.int p4), .val (.int p5), .val (.int (2 : Int32)), .val (.ref b9), .val (.int p2), .val (.int p2), .val (.int (1 : Int32)), .unset] [(.int (3 : Int32)), (.int (2 : Int32))])) (fun t_ kk => XS.iconst X16.here hx rfl (hb hby at_149) kk) ?_
    refine own_st (F' := T16.setTop (mkF m 175 #[.val (.int p1), .val (.int p2), .val (.int p3), .val (.int p4), .val (.int p5), .val (.int (2 : Int32)), .val (.ref b9), .val (.int p2), .val (.int p2), .val (.int (1 : Int32)), .unset] [])) (fun t_ kk => XS.icmpYes X16.here hx rfl (pc0 := 150) (pc' := 175) rfl (hb hby at_150) rfl (feq (by decide : ¬ ((2 : Int32) = (3 : Int32)))).2 (by decide) (by decide) kk) ?_
    refine own_st (F' := T16.setTop (mkF m 177 #[.val (.int p1), .val (.int p2), .val (.int p3), .val (.int p4), .val (.int p5), .val (.int (2 : Int32)), .val (.ref b9), .val (.int p2), .val (.int p2), .val (.int (1 : Int32)), .unset] [(.ref b9)])) (fun t_ kk => XS.aload X16.here hx rfl (hb hby at_175) rfl rfl kk) ?_
    refine own_st (F' := T16.setTop (mkF m 178 #[.val (.int p1), .val (.int p2), .val (.int p3), .val (.int p4), .val (.int p5), .val (.int (2 : Int32)), .val (.ref b9), .val (.int p2), .val (.int p2), .val (.int (1 : Int32)), .unset] [(.int p4), (.ref b9)])) (fun t_ kk => XS.iloadN X16.here hx rfl (hb hby at_177) rfl kk) ?_
    refine own_virt X16 hx hZ (y := (⟨"com/example/coarsen/coarsen/service/Ints", "add", "(I)I"⟩ : MethodName)) hown (hw _ (List.mem_of_getElem? (i := 13) rfl)) (hw _ (List.mem_of_getElem? (i := 14) rfl)) (hw _ (List.mem_of_getElem? (i := 16) rfl)) (hw _ (List.mem_of_getElem? (i := 15) rfl)) (hw _ (List.mem_of_getElem? (i := 3) rfl)) (hw _ (List.mem_of_getElem? (i := 17) rfl)) I14.1 (rm3 l Z a0 hw [] b9 b kb (1 : Int32) (([(.int (0 : Int32)), (.int (0 : Int32)), (.int (0 : Int32)), (.int (0 : Int32)), (.int (0 : Int32)), (.int (0 : Int32)), (.int (0 : Int32)), (.int (0 : Int32)), (.int (0 : Int32)), (.int (0 : Int32)), (.int (0 : Int32)), (.int (0 : Int32)), (.int (0 : Int32)), (.int (0 : Int32)), (.int (0 : Int32)), (.int (0 : Int32))].set 0 (.int p1)).set 1 (.int p2)) p4 1 h14 n0 Z14 I14 g_b9 g_b (by decide) (by decide) (by decide)) (by decide) (W := 0) (argsL := [(.int p4)]) (rest := []) (by decide) (by decide) (by rw [hml]; rfl) (lenOf own_pd1 rfl) rfl rfl (Nat.le_of_eq rfl) (hb hby at_178) e16 (by decide) (by decide) ?_
    intro v17 T17 L17 hQ17 X17
    obtain ⟨rfl, N17q, Z17q, I17q⟩ := hQ17
    have N17 := Fr.app N16 N17q
    have Z17 := Nat.le_trans Z14 Z17q
    obtain ⟨h17, e17⟩ : ∃ z, T17.heap = z := ⟨_, rfl⟩
    rw [e17] at I17q Z17
    have I17 : OInts Z h17 b9 b kb (2 : Int32) ((([(.int (0 : Int32)), (.int (0 : Int32)), (.int (0 : Int32)), (.int (0 : Int32)), (.int (0 : Int32)), (.int (0 : Int32)), (.int (0 : Int32)), (.int (0 : Int32)), (.int (0 : Int32)), (.int (0 : Int32)), (.int (0 : Int32)), (.int (0 : Int32)), (.int (0 : Int32)), (.int (0 : Int32)), (.int (0 : Int32)), (.int (0 : Int32))].set 0 (.int p1)).set 1 (.int p2)).set 1 (.int p4)) := I17q
    show OWp p e below s _ _ _ (T17.setTop (mkF m 181 #[.val (.int p1), .val (.int p2), .val (.int p3), .val (.int p4), .val (.int p5), .val (.int (2 : Int32)), .val (.ref b9), .val (.int p2), .val (.int p2), .val (.int (1 : Int32)), .unset] [(.int (1 : Int32))]))
    refine own_st (F' := T17.setTop (mkF m 183 #[.val (.int p1), .val (.int p2), .val (.int p3), .val (.int p4), .val (.int p5), .val (.int (2 : Int32)), .val (.ref b9), .val (.int p2), .val (.int p2), .val (.int (1 : Int32)), .val (.int (1 : Int32))] [])) (fun t_ kk => XS.istore X17.here hx rfl (hb hby at_181) rfl (l' := #[.val (.int p1), .val (.int p2), .val (.int p3), .val (.int p4), .val (.int p5), .val (.int (2 : Int32)), .val (.ref b9), .val (.int p2), .val (.int p2), .val (.int (1 : Int32)), .val (.int (1 : Int32))]) rfl kk) ?_
    refine own_st (F' := T17.setTop (mkF m 185 #[.val (.int p1), .val (.int p2), .val (.int p3), .val (.int p4), .val (.int p5), .val (.int (2 : Int32)), .val (.ref b9), .val (.int p2), .val (.int p2), .val (.int (1 : Int32)), .val (.int (1 : Int32))] [(.int (1 : Int32))])) (fun t_ kk => XS.iload X17.here hx rfl (hb hby at_183) rfl kk) ?_
    refine own_st (F' := T17.setTop (mkF m 188 #[.val (.int p1), .val (.int p2), .val (.int p3), .val (.int p4), .val (.int p5), .val (.int (2 : Int32)), .val (.ref b9), .val (.int p2), .val (.int p2), .val (.int (1 : Int32)), .val (.int (1 : Int32))] [])) (fun t_ kk => XS.ifNo X17.here hx rfl (hb hby at_185) rfl ((if0 _ _).trans (feq (by decide : ¬ ((1 : Int32) = (0 : Int32)))).1) kk) ?_
    refine own_st (F' := T17.setTop (mkF m 190 #[.val (.int p1), .val (.int p2), .val (.int p3), .val (.int p4), .val (.int p5), .val (.int (2 : Int32)), .val (.ref b9), .val (.int p2), .val (.int p2), .val (.int (1 : Int32)), .val (.int (1 : Int32))] [(.int (1 : Int32))])) (fun t_ kk => XS.iload X17.here hx rfl (hb hby at_188) rfl kk) ?_
    refine own_st (F' := T17.setTop (mkF m 192 #[.val (.int p1), .val (.int p2), .val (.int p3), .val (.int p4), .val (.int p5), .val (.int (2 : Int32)), .val (.ref b9), .val (.int p2), .val (.int p2), .val (.int (1 : Int32)), .val (.int (1 : Int32))] [(.int (2 : Int32)), (.int (1 : Int32))])) (fun t_ kk => XS.iload X17.here hx rfl (hb hby at_190) rfl kk) ?_
    refine own_st (F' := T17.setTop (mkF m 193 #[.val (.int p1), .val (.int p2), .val (.int p3), .val (.int p4), .val (.int p5), .val (.int (2 : Int32)), .val (.ref b9), .val (.int p2), .val (.int p2), .val (.int (1 : Int32)), .val (.int (1 : Int32))] [(.int (1 : Int32)), (.int (2 : Int32)), (.int (1 : Int32))])) (fun t_ kk => XS.iconst X17.here hx rfl (hb hby at_192) kk) ?_
    refine own_st (F' := T17.setTop (mkF m 194 #[.val (.int p1), .val (.int p2), .val (.int p3), .val (.int p4), .val (.int p5), .val (.int (2 : Int32)), .val (.ref b9), .val (.int p2), .val (.int p2), .val (.int (1 : Int32)), .val (.int (1 : Int32))] [(.int (1 : Int32)), (.int (1 : Int32))])) (fun t_ kk => XS.isub X17.here hx rfl (hb hby at_193) rfl kk) ?_
    refine own_st (F' := T17.setTop (mkF m 197 #[.val (.int p1), .val (.int p2), .val (.int p3), .val (.int p4), .val (.int p5), .val (.int (2 : Int32)), .val (.ref b9), .val (.int p2), .val (.int p2), .val (.int (1 : Int32)), .val (.int (1 : Int32))] [])) (fun t_ kk => XS.icmpNo X17.here hx rfl (hb hby at_194) rfl (teq (by decide : (1 : Int32) = (1 : Int32))).2 kk) ?_
    refine own_st (F' := T17.setTop (mkF m 198 #[.val (.int p1), .val (.int p2), .val (.int p3), .val (.int p4), .val (.int p5), .val (.int (2 : Int32)), .val (.ref b9), .val (.int p2), .val (.int p2), .val (.int (1 : Int32)), .val (.int (1 : Int32))] [(.int (1 : Int32))])) (fun t_ kk => XS.iconst X17.here hx rfl (hb hby at_197) kk) ?_
    refine own_st (F' := T17.setTop (mkF m 202 #[.val (.int p1), .val (.int p2), .val (.int p3), .val (.int p4), .val (.int p5), .val (.int (2 : Int32)), .val (.ref b9), .val (.int p2), .val (.int p2), .val (.int (1 : Int32)), .val (.int (1 : Int32))] [(.int (1 : Int32))])) (fun t_ kk => XS.goto X17.here hx rfl (pc0 := 198) (pc' := 202) rfl (hb hby at_198) (by decide) (by decide) kk) ?_
    refine own_st (F' := T17.setTop (mkF m 204 #[.val (.int p1), .val (.int p2), .val (.int p3), .val (.int p4), .val (.int p5), .val (.int (2 : Int32)), .val (.ref b9), .val (.int p2), .val (.int p2), .val (.int (1 : Int32)), .val (.int (1 : Int32))] [])) (fun t_ kk => XS.istore X17.here hx rfl (hb hby at_202) rfl (l' := #[.val (.int p1), .val (.int p2), .val (.int p3), .val (.int p4), .val (.int p5), .val (.int (2 : Int32)), .val (.ref b9), .val (.int p2), .val (.int p2), .val (.int (1 : Int32)), .val (.int (1 : Int32))]) rfl kk) ?_
    refine own_st (F' := T17.setTop (mkF m 206 #[.val (.int p1), .val (.int p2), .val (.int p3), .val (.int p4), .val (.int p5), .val (.int (2 : Int32)), .val (.ref b9), .val (.int p2), .val (.int p2), .val (.int (1 : Int32)), .val (.int (1 : Int32))] [(.int (1 : Int32))])) (fun t_ kk => XS.iload X17.here hx rfl (hb hby at_204) rfl kk) ?_
    refine own_st (F' := T17.setTop (mkF m 209 #[.val (.int p1), .val (.int p2), .val (.int p3), .val (.int p4), .val (.int p5), .val (.int (2 : Int32)), .val (.ref b9), .val (.int p2), .val (.int p2), .val (.int (1 : Int32)), .val (.int (1 : Int32))] [])) (fun t_ kk => XS.ifNo X17.here hx rfl (hb hby at_206) rfl ((if0 _ _).trans (feq (by decide : ¬ ((1 : Int32) = (0 : Int32)))).1) kk) ?_
    refine own_st (F' := T17.setTop (mkF m 211 #[.val (.int p1), .val (.int p2), .val (.int p3), .val (.int p4), .val (.int p5), .val (.int (2 : Int32)), .val (.ref b9), .val (.int p2), .val (.int p2), .val (.int (1 : Int32)), .val (.int (1 : Int32))] [(.ref b9)])) (fun t_ kk => XS.aload X17.here hx rfl (hb hby at_209) rfl rfl kk) ?_
    refine own_st (F' := T17.setTop (mkF m 213 #[.val (.int p1), .val (.int p2), .val (.int p3), .val (.int p4), .val (.int p5), .val (.int (2 : Int32)), .val (.ref b9), .val (.int p2), .val (.int p2), .val (.int (1 : Int32)), .val (.int (1 : Int32))] [(.int (2 : Int32)), (.ref b9)])) (fun t_ kk => XS.iload X17.here hx rfl (hb hby at_211) rfl kk) ?_
    refine own_st (F' := T17.setTop (mkF m 214 #[.val (.int p1), .val (.int p2), .val (.int p3), .val (.int p4), .val (.int p5), .val (.int (2 : Int32)), .val (.ref b9), .val (.int p2), .val (.int p2), .val (.int (1 : Int32)), .val (.int (1 : Int32))] [(.int (1 : Int32)), (.int (2 : Int32)), (.ref b9)])) (fun t_ kk => XS.iconst X17.here hx rfl (hb hby at_213) kk) ?_
    refine own_st (F' := T17.setTop (mkF m 215 #[.val (.int p1), .val (.int p2), .val (.int p3), .val (.int p4), .val (.int p5), .val (.int (2 : Int32)), .val (.ref b9), .val (.int p2), .val (.int p2), .val (.int (1 : Int32)), .val (.int (1 : Int32))] [(.int (1 : Int32)), (.ref b9)])) (fun t_ kk => XS.isub X17.here hx rfl (hb hby at_214) rfl kk) ?_
    refine own_virt X17 hx hZ (y := (⟨"com/example/coarsen/coarsen/service/Ints", "get", "(I)I"⟩ : MethodName)) hown (hw _ (List.mem_of_getElem? (i := 30) rfl)) (hw _ (List.mem_of_getElem? (i := 31) rfl)) (hw _ (List.mem_of_getElem? (i := 33) rfl)) (hw _ (List.mem_of_getElem? (i := 32) rfl)) (hw _ (List.mem_of_getElem? (i := 3) rfl)) (hw _ (List.mem_of_getElem? (i := 34) rfl)) I17.1 (rm6 l Z a0 hw [] b9 b kb (2 : Int32) ((([(.int (0 : Int32)), (.int (0 : Int32)), (.int (0 : Int32)), (.int (0 : Int32)), (.int (0 : Int32)), (.int (0 : Int32)), (.int (0 : Int32)), (.int (0 : Int32)), (.int (0 : Int32)), (.int (0 : Int32)), (.int (0 : Int32)), (.int (0 : Int32)), (.int (0 : Int32)), (.int (0 : Int32)), (.int (0 : Int32)), (.int (0 : Int32))].set 0 (.int p1)).set 1 (.int p2)).set 1 (.int p4)) (1 : Int32) p4 h17 n0 Z17 I17 g_b9 g_b (by decide) (by decide) rfl) (by decide) (W := 0) (argsL := [(.int (1 : Int32))]) (rest := []) (by decide) (by decide) (by rw [hml]; rfl) (lenOf own_pd1 rfl) rfl rfl (Nat.le_of_eq rfl) (hb hby at_215) e17 (by decide) (by decide) ?_
    intro v18 T18 L18 hQ18 X18
    obtain ⟨rfl, N18q, e18⟩ := hQ18
    have N18 := Fr.app N17 N18q
    show OWp p e below s _ _ _ (T18.setTop (mkF m 218 #[.val (.int p1), .val (.int p2), .val (.int p3), .val (.int p4), .val (.int p5), .val (.int (2 : Int32)), .val (.ref b9), .val (.int p2), .val (.int p2), .val (.int (1 : Int32)), .val (.int (1 : Int32))] [(.int p4)]))
    refine own_st (F' := T18.setTop (mkF m 219 #[.val (.int p1), .val (.int p2), .val (.int p3), .val (.int p4), .val (.int p5), .val (.int (2 : Int32)), .val (.ref b9), .val (.int p2), .val (.int p2), .val (.int (1 : Int32)), .val (.int (1 : Int32))] [(.int p4), (.int p4)])) (fun t_ kk => XS.iloadN X18.here hx rfl (hb hby at_218) rfl kk) ?_
    refine own_st (F' := T18.setTop (mkF m 222 #[.val (.int p1), .val (.int p2), .val (.int p3), .val (.int p4), .val (.int p5), .val (.int (2 : Int32)), .val (.ref b9), .val (.int p2), .val (.int p2), .val (.int (1 : Int32)), .val (.int (1 : Int32))] [])) (fun t_ kk => XS.icmpNo X18.here hx rfl (hb hby at_219) rfl (teq (rfl : p4 = p4)).2 kk) ?_
    refine own_st (F' := T18.setTop (mkF m 223 #[.val (.int p1), .val (.int p2), .val (.int p3), .val (.int p4), .val (.int p5), .val (.int (2 : Int32)), .val (.ref b9), .val (.int p2), .val (.int p2), .val (.int (1 : Int32)), .val (.int (1 : Int32))] [(.int (1 : Int32))])) (fun t_ kk => XS.iconst X18.here hx rfl (hb hby at_222) kk) ?_
    refine own_st (F' := T18.setTop (mkF m 227 #[.val (.int p1), .val (.int p2), .val (.int p3), .val (.int p4), .val (.int p5), .val (.int (2 : Int32)), .val (.ref b9), .val (.int p2), .val (.int p2), .val (.int (1 : Int32)), .val (.int (1 : Int32))] [(.int (1 : Int32))])) (fun t_ kk => XS.goto X18.here hx rfl (pc0 := 223) (pc' := 227) rfl (hb hby at_223) (by decide) (by decide) kk) ?_
    refine own_st (F' := T18.setTop (mkF m 229 #[.val (.int p1), .val (.int p2), .val (.int p3), .val (.int p4), .val (.int p5), .val (.int (2 : Int32)), .val (.ref b9), .val (.int p2), .val (.int p2), .val (.int (1 : Int32)), .val (.int (1 : Int32))] [])) (fun t_ kk => XS.istore X18.here hx rfl (hb hby at_227) rfl (l' := #[.val (.int p1), .val (.int p2), .val (.int p3), .val (.int p4), .val (.int p5), .val (.int (2 : Int32)), .val (.ref b9), .val (.int p2), .val (.int p2), .val (.int (1 : Int32)), .val (.int (1 : Int32))]) rfl kk) ?_
    refine own_st (F' := T18.setTop (mkF m 231 #[.val (.int p1), .val (.int p2), .val (.int p3), .val (.int p4), .val (.int p5), .val (.int (2 : Int32)), .val (.ref b9), .val (.int p2), .val (.int p2), .val (.int (1 : Int32)), .val (.int (1 : Int32))] [(.int (1 : Int32))])) (fun t_ kk => XS.iload X18.here hx rfl (hb hby at_229) rfl kk) ?_
    refine own_fin X18 (some (.int (1 : Int32))) (fun h => by rw [Bd.returns] at h; cases h) Bd.notSynchronized (by decide) (by decide) (fun fs hr => retN X18 hx (t := .boolean) Bd.returns (by simp) (hb hby at_231) hr) ?_
    rw [e18]
    exact ⟨rfl, N18⟩
  · rw [hn]
    show OWp p e below s _ _ _ (s₁.setTop (mkF m 9 #[.val (.int p1), .val (.int p2), .val (.int p3), .val (.int p4), .val (.int p5), .unset, .unset, .unset, .unset, .unset, .unset] [(.int (3 : Int32))]))
    refine own_st (F' := s₁.setTop (mkF m 11 #[.val (.int p1), .val (.int p2), .val (.int p3), .val (.int p4), .val (.int p5), .val (.int (3 : Int32)), .unset, .unset, .unset, .unset, .unset] [])) (fun t_ kk => XS.istore X0.here hx rfl (hb hby at_9) rfl (l' := #[.val (.int p1), .val (.int p2), .val (.int p3), .val (.int p4), .val (.int p5), .val (.int (3 : Int32)), .unset, .unset, .unset, .unset, .unset]) rfl kk) ?_
    obtain ⟨T19, h19, X19, e19, E19, A19, D19, -, st19⟩ := newO X0 hx hZ hown (hw _ (List.mem_of_getElem? (i := 1) rfl)) (hw _ (List.mem_of_getElem? (i := 2) rfl)) (hw _ (List.mem_of_getElem? (i := 3) rfl)) e0 (g := (mkF m 11 #[.val (.int p1), .val (.int p2), .val (.int p3), .val (.int p4), .val (.int p5), .val (.int (3 : Int32)), .unset, .unset, .unset, .unset, .unset] [])) rfl (hb hby at_11) (by decide) (by decide)
    obtain ⟨b19, g19⟩ : ∃ z, z = h0.size := ⟨_, rfl⟩
    rw [← g19] at A19 D19 st19
    have g_b19 : n0 ≤ b19 := Nat.le_trans Z0 (Nat.le_of_eq g19.symm)
    have F19_values : Fld Z h19 b19 "com/example/coarsen/coarsen/service/Ints" "values" "[I" .null := D19 (Or.inl (hw _ (List.mem_of_getElem? (i := 12) rfl))) (ty := (.array .int)) (by decide)
    have F19_size : Fld Z h19 b19 "com/example/coarsen/coarsen/service/Ints" "size" "I" (.int (0 : Int32)) := D19 (Or.inl (hw _ (List.mem_of_getElem? (i := 19) rfl))) (ty := .int) (by decide)
    have Z20 := Nat.le_trans Z0 E19.1
    refine own_st (F' := T19.setTop (mkF m 14 #[.val (.int p1), .val (.int p2), .val (.int p3), .val (.int p4), .val (.int p5), .val (.int (3 : Int32)), .unset, .unset, .unset, .unset, .unset] [(.ref b19)])) st19 ?_
    refine own_st (F' := T19.setTop (mkF m 15 #[.val (.int p1), .val (.int p2), .val (.int p3), .val (.int p4), .val (.int p5), .val (.int (3 : Int32)), .unset, .unset, .unset, .unset, .unset] [(.ref b19), (.ref b19)])) (fun t_ kk => XS.dup X19.here hx rfl (hb hby at_14) rfl rfl kk) ?_
    refine own_init X19 hx hZ (y := (⟨"com/example/coarsen/coarsen/service/Ints", "<init>", "()V"⟩ : MethodName)) hown rfl (hw _ (List.mem_of_getElem? (i := 4) rfl)) (hw _ (List.mem_of_getElem? (i := 5) rfl)) (hw _ (List.mem_of_getElem? (i := 3) rfl)) (hw _ (List.mem_of_getElem? (i := 6) rfl)) (rm1 l Z a0 hw [] b19 .null h19 n0 Z20 A19 F19_values F19_size g_b19) (by decide) (W := 1) (a := b19) (argsL := []) (rest := [(.ref b19)]) (by decide) (by decide) (by rw [hml]; rfl) (lenOf own_pd0 rfl) rfl rfl (Nat.le_of_eq rfl) (hb hby at_15) e19 (by decide) (by decide) ?_
    intro v21 T21 L21 hQ21 X21
    obtain ⟨rfl, N21q, Z21q, b, kb, g_b, I21⟩ := hQ21
    have N21 := Fr.app N0 N21q
    have Z21 := Nat.le_trans Z20 Z21q
    obtain ⟨h21, e21⟩ : ∃ z, T21.heap = z := ⟨_, rfl⟩
    rw [e21] at I21 Z21
    show OWp p e below s _ _ _ (T21.setTop (mkF m 18 #[.val (.int p1), .val (.int p2), .val (.int p3), .val (.int p4), .val (.int p5), .val (.int (3 : Int32)), .unset, .unset, .unset, .unset, .unset] [(.ref b19)]))
    refine own_st (F' := T21.setTop (mkF m 20 #[.val (.int p1), .val (.int p2), .val (.int p3), .val (.int p4), .val (.int p5), .val (.int (3 : Int32)), .val (.ref b19), .unset, .unset, .unset, .unset] [])) (fun t_ kk => XS.astore X21.here hx rfl (hb hby at_18) rfl rfl (l' := #[.val (.int p1), .val (.int p2), .val (.int p3), .val (.int p4), .val (.int p5), .val (.int (3 : Int32)), .val (.ref b19), .unset, .unset, .unset, .unset]) rfl kk) ?_
    refine own_st (F' := T21.setTop (mkF m 22 #[.val (.int p1), .val (.int p2), .val (.int p3), .val (.int p4), .val (.int p5), .val (.int (3 : Int32)), .val (.ref b19), .unset, .unset, .unset, .unset] [(.ref b19)])) (fun t_ kk => XS.aload X21.here hx rfl (hb hby at_20) rfl rfl kk) ?_
    refine own_st (F' := T21.setTop (mkF m 23 #[.val (.int p1), .val (.int p2), .val (.int p3), .val (.int p4), .val (.int p5), .val (.int (3 : Int32)), .val (.ref b19), .unset, .unset, .unset, .unset] [(.int p1), (.ref b19)])) (fun t_ kk => XS.iloadN X21.here hx rfl (hb hby at_22) rfl kk) ?_
    refine own_virt X21 hx hZ (y := (⟨"com/example/coarsen/coarsen/service/Ints", "add", "(I)I"⟩ : MethodName)) hown (hw _ (List.mem_of_getElem? (i := 13) rfl)) (hw _ (List.mem_of_getElem? (i := 14) rfl)) (hw _ (List.mem_of_getElem? (i := 16) rfl)) (hw _ (List.mem_of_getElem? (i := 15) rfl)) (hw _ (List.mem_of_getElem? (i := 3) rfl)) (hw _ (List.mem_of_getElem? (i := 17) rfl)) I21.1 (rm3 l Z a0 hw [] b19 b kb (0 : Int32) [(.int (0 : Int32)), (.int (0 : Int32)), (.int (0 : Int32)), (.int (0 : Int32)), (.int (0 : Int32)), (.int (0 : Int32)), (.int (0 : Int32)), (.int (0 : Int32)), (.int (0 : Int32)), (.int (0 : Int32)), (.int (0 : Int32)), (.int (0 : Int32)), (.int (0 : Int32)), (.int (0 : Int32)), (.int (0 : Int32)), (.int (0 : Int32))] p1 0 h21 n0 Z21 I21 g_b19 g_b (by decide) (by decide) (by decide)) (by decide) (W := 0) (argsL := [(.int p1)]) (rest := []) (by decide) (by decide) (by rw [hml]; rfl) (lenOf own_pd1 rfl) rfl rfl (Nat.le_of_eq rfl) (hb hby at_23) e21 (by decide) (by decide) ?_
    intro v22 T22 L22 hQ22 X22
    obtain ⟨rfl, N22q, Z22q, I22q⟩ := hQ22
    have N22 := Fr.app N21 N22q
    have Z22 := Nat.le_trans Z21 Z22q
    obtain ⟨h22, e22⟩ : ∃ z, T22.heap = z := ⟨_, rfl⟩
    rw [e22] at I22q Z22
    have I22 : OInts Z h22 b19 b kb (1 : Int32) ([(.int (0 : Int32)), (.int (0 : Int32)), (.int (0 : Int32)), (.int (0 : Int32)), (.int (0 : Int32)), (.int (0 : Int32)), (.int (0 : Int32)), (.int (0 : Int32)), (.int (0 : Int32)), (.int (0 : Int32)), (.int (0 : Int32)), (.int (0 : Int32)), (.int (0 : Int32)), (.int (0 : Int32)), (.int (0 : Int32)), (.int (0 : Int32))].set 0 (.int p1)) := I22q
    show OWp p e below s _ _ _ (T22.setTop (mkF m 26 #[.val (.int p1), .val (.int p2), .val (.int p3), .val (.int p4), .val (.int p5), .val (.int (3 : Int32)), .val (.ref b19), .unset, .unset, .unset, .unset] [(.int (0 : Int32))]))
    refine own_st (F' := T22.setTop (mkF m 27 #[.val (.int p1), .val (.int p2), .val (.int p3), .val (.int p4), .val (.int p5), .val (.int (3 : Int32)), .val (.ref b19), .unset, .unset, .unset, .unset] [])) (fun t_ kk => XS.pop X22.here hx rfl (hb hby at_26) rfl rfl kk) ?_
    refine own_st (F' := T22.setTop (mkF m 29 #[.val (.int p1), .val (.int p2), .val (.int p3), .val (.int p4), .val (.int p5), .val (.int (3 : Int32)), .val (.ref b19), .unset, .unset, .unset, .unset] [(.int (3 : Int32))])) (fun t_ kk => XS.iload X22.here hx rfl (hb hby at_27) rfl kk) ?_
    refine own_st (F' := T22.setTop (mkF m 30 #[.val (.int p1), .val (.int p2), .val (.int p3), .val (.int p4), .val (.int p5), .val (.int (3 : Int32)), .val (.ref b19), .unset, .unset, .unset, .unset] [(.int (2 : Int32)), (.int (3 : Int32))])) (fun t_ kk => XS.iconst X22.here hx rfl (hb hby at_29) kk) ?_
    refine own_st (F' := T22.setTop (mkF m 33 #[.val (.int p1), .val (.int p2), .val (.int p3), .val (.int p4), .val (.int p5), .val (.int (3 : Int32)), .val (.ref b19), .unset, .unset, .unset, .unset] [])) (fun t_ kk => XS.icmpNo X22.here hx rfl (hb hby at_30) rfl (flt (by decide : ¬ ((3 : Int32) < (2 : Int32)))).1 kk) ?_
    refine own_st (F' := T22.setTop (mkF m 35 #[.val (.int p1), .val (.int p2), .val (.int p3), .val (.int p4), .val (.int p5), .val (.int (3 : Int32)), .val (.ref b19), .unset, .unset, .unset, .unset] [(.ref b19)])) (fun t_ kk => XS.aload X22.here hx rfl (hb hby at_33) rfl rfl kk) ?_
    refine own_st (F' := T22.setTop (mkF m 36 #[.val (.int p1), .val (.int p2), .val (.int p3), .val (.int p4), .val (.int p5), .val (.int (3 : Int32)), .val (.ref b19), .unset, .unset, .unset, .unset] [(.int p2), (.ref b19)])) (fun t_ kk => XS.iloadN X22.here hx rfl (hb hby at_35) rfl kk) ?_
    refine own_virt X22 hx hZ (y := (⟨"com/example/coarsen/coarsen/service/Ints", "add", "(I)I"⟩ : MethodName)) hown (hw _ (List.mem_of_getElem? (i := 13) rfl)) (hw _ (List.mem_of_getElem? (i := 14) rfl)) (hw _ (List.mem_of_getElem? (i := 16) rfl)) (hw _ (List.mem_of_getElem? (i := 15) rfl)) (hw _ (List.mem_of_getElem? (i := 3) rfl)) (hw _ (List.mem_of_getElem? (i := 17) rfl)) I22.1 (rm3 l Z a0 hw [] b19 b kb (1 : Int32) ([(.int (0 : Int32)), (.int (0 : Int32)), (.int (0 : Int32)), (.int (0 : Int32)), (.int (0 : Int32)), (.int (0 : Int32)), (.int (0 : Int32)), (.int (0 : Int32)), (.int (0 : Int32)), (.int (0 : Int32)), (.int (0 : Int32)), (.int (0 : Int32)), (.int (0 : Int32)), (.int (0 : Int32)), (.int (0 : Int32)), (.int (0 : Int32))].set 0 (.int p1)) p2 1 h22 n0 Z22 I22 g_b19 g_b (by decide) (by decide) (by decide)) (by decide) (W := 0) (argsL := [(.int p2)]) (rest := []) (by decide) (by decide) (by rw [hml]; rfl) (lenOf own_pd1 rfl) rfl rfl (Nat.le_of_eq rfl) (hb hby at_36) e22 (by decide) (by decide) ?_
    intro v23 T23 L23 hQ23 X23
    obtain ⟨rfl, N23q, Z23q, I23q⟩ := hQ23
    have N23 := Fr.app N22 N23q
    have Z23 := Nat.le_trans Z22 Z23q
    obtain ⟨h23, e23⟩ : ∃ z, T23.heap = z := ⟨_, rfl⟩
    rw [e23] at I23q Z23
    have I23 : OInts Z h23 b19 b kb (2 : Int32) (([(.int (0 : Int32)), (.int (0 : Int32)), (.int (0 : Int32)), (.int (0 : Int32)), (.int (0 : Int32)), (.int (0 : Int32)), (.int (0 : Int32)), (.int (0 : Int32)), (.int (0 : Int32)), (.int (0 : Int32)), (.int (0 : Int32)), (.int (0 : Int32)), (.int (0 : Int32)), (.int (0 : Int32)), (.int (0 : Int32)), (.int (0 : Int32))].set 0 (.int p1)).set 1 (.int p2)) := I23q
    show OWp p e below s _ _ _ (T23.setTop (mkF m 39 #[.val (.int p1), .val (.int p2), .val (.int p3), .val (.int p4), .val (.int p5), .val (.int (3 : Int32)), .val (.ref b19), .unset, .unset, .unset, .unset] [(.int (1 : Int32))]))
    refine own_st (F' := T23.setTop (mkF m 40 #[.val (.int p1), .val (.int p2), .val (.int p3), .val (.int p4), .val (.int p5), .val (.int (3 : Int32)), .val (.ref b19), .unset, .unset, .unset, .unset] [])) (fun t_ kk => XS.pop X23.here hx rfl (hb hby at_39) rfl rfl kk) ?_
    refine own_st (F' := T23.setTop (mkF m 42 #[.val (.int p1), .val (.int p2), .val (.int p3), .val (.int p4), .val (.int p5), .val (.int (3 : Int32)), .val (.ref b19), .unset, .unset, .unset, .unset] [(.int (3 : Int32))])) (fun t_ kk => XS.iload X23.here hx rfl (hb hby at_40) rfl kk) ?_
    refine own_st (F' := T23.setTop (mkF m 43 #[.val (.int p1), .val (.int p2), .val (.int p3), .val (.int p4), .val (.int p5), .val (.int (3 : Int32)), .val (.ref b19), .unset, .unset, .unset, .unset] [(.int (3 : Int32)), (.int (3 : Int32))])) (fun t_ kk => XS.iconst X23.here hx rfl (hb hby at_42) kk) ?_
    refine own_st (F' := T23.setTop (mkF m 46 #[.val (.int p1), .val (.int p2), .val (.int p3), .val (.int p4), .val (.int p5), .val (.int (3 : Int32)), .val (.ref b19), .unset, .unset, .unset, .unset] [])) (fun t_ kk => XS.icmpNo X23.here hx rfl (hb hby at_43) rfl (flt (by decide : ¬ ((3 : Int32) < (3 : Int32)))).1 kk) ?_
    refine own_st (F' := T23.setTop (mkF m 48 #[.val (.int p1), .val (.int p2), .val (.int p3), .val (.int p4), .val (.int p5), .val (.int (3 : Int32)), .val (.ref b19), .unset, .unset, .unset, .unset] [(.ref b19)])) (fun t_ kk => XS.aload X23.here hx rfl (hb hby at_46) rfl rfl kk) ?_
    refine own_st (F' := T23.setTop (mkF m 49 #[.val (.int p1), .val (.int p2), .val (.int p3), .val (.int p4), .val (.int p5), .val (.int (3 : Int32)), .val (.ref b19), .unset, .unset, .unset, .unset] [(.int p3), (.ref b19)])) (fun t_ kk => XS.iloadN X23.here hx rfl (hb hby at_48) rfl kk) ?_
    refine own_virt X23 hx hZ (y := (⟨"com/example/coarsen/coarsen/service/Ints", "add", "(I)I"⟩ : MethodName)) hown (hw _ (List.mem_of_getElem? (i := 13) rfl)) (hw _ (List.mem_of_getElem? (i := 14) rfl)) (hw _ (List.mem_of_getElem? (i := 16) rfl)) (hw _ (List.mem_of_getElem? (i := 15) rfl)) (hw _ (List.mem_of_getElem? (i := 3) rfl)) (hw _ (List.mem_of_getElem? (i := 17) rfl)) I23.1 (rm3 l Z a0 hw [] b19 b kb (2 : Int32) (([(.int (0 : Int32)), (.int (0 : Int32)), (.int (0 : Int32)), (.int (0 : Int32)), (.int (0 : Int32)), (.int (0 : Int32)), (.int (0 : Int32)), (.int (0 : Int32)), (.int (0 : Int32)), (.int (0 : Int32)), (.int (0 : Int32)), (.int (0 : Int32)), (.int (0 : Int32)), (.int (0 : Int32)), (.int (0 : Int32)), (.int (0 : Int32))].set 0 (.int p1)).set 1 (.int p2)) p3 2 h23 n0 Z23 I23 g_b19 g_b (by decide) (by decide) (by decide)) (by decide) (W := 0) (argsL := [(.int p3)]) (rest := []) (by decide) (by decide) (by rw [hml]; rfl) (lenOf own_pd1 rfl) rfl rfl (Nat.le_of_eq rfl) (hb hby at_49) e23 (by decide) (by decide) ?_
    intro v24 T24 L24 hQ24 X24
    obtain ⟨rfl, N24q, Z24q, I24q⟩ := hQ24
    have N24 := Fr.app N23 N24q
    have Z24 := Nat.le_trans Z23 Z24q
    obtain ⟨h24, e24⟩ : ∃ z, T24.heap = z := ⟨_, rfl⟩
    rw [e24] at I24q Z24
    have I24 : OInts Z h24 b19 b kb (3 : Int32) ((([(.int (0 : Int32)), (.int (0 : Int32)), (.int (0 : Int32)), (.int (0 : Int32)), (.int (0 : Int32)), (.int (0 : Int32)), (.int (0 : Int32)), (.int (0 : Int32)), (.int (0 : Int32)), (.int (0 : Int32)), (.int (0 : Int32)), (.int (0 : Int32)), (.int (0 : Int32)), (.int (0 : Int32)), (.int (0 : Int32)), (.int (0 : Int32))].set 0 (.int p1)).set 1 (.int p2)).set 2 (.int p3)) := I24q
    show OWp p e below s _ _ _ (T24.setTop (mkF m 52 #[.val (.int p1), .val (.int p2), .val (.int p3), .val (.int p4), .val (.int p5), .val (.int (3 : Int32)), .val (.ref b19), .unset, .unset, .unset, .unset] [(.int (2 : Int32))]))
    refine own_st (F' := T24.setTop (mkF m 53 #[.val (.int p1), .val (.int p2), .val (.int p3), .val (.int p4), .val (.int p5), .val (.int (3 : Int32)), .val (.ref b19), .unset, .unset, .unset, .unset] [])) (fun t_ kk => XS.pop X24.here hx rfl (hb hby at_52) rfl rfl kk) ?_
    refine own_st (F' := T24.setTop (mkF m 54 #[.val (.int p1), .val (.int p2), .val (.int p3), .val (.int p4), .val (.int p5), .val (.int (3 : Int32)), .val (.ref b19), .unset, .unset, .unset, .unset] [(.int p1)])) (fun t_ kk => XS.iloadN X24.here hx rfl (hb hby at_53) rfl kk) ?_
    refine own_st (F' := T24.setTop (mkF m 56 #[.val (.int p1), .val (.int p2), .val (.int p3), .val (.int p4), .val (.int p5), .val (.int (3 : Int32)), .val (.ref b19), .val (.int p1), .unset, .unset, .unset] [])) (fun t_ kk => XS.istore X24.here hx rfl (hb hby at_54) rfl (l' := #[.val (.int p1), .val (.int p2), .val (.int p3), .val (.int p4), .val (.int p5), .val (.int (3 : Int32)), .val (.ref b19), .val (.int p1), .unset, .unset, .unset]) rfl kk) ?_
    refine own_st (F' := T24.setTop (mkF m 58 #[.val (.int p1), .val (.int p2), .val (.int p3), .val (.int p4), .val (.int p5), .val (.int (3 : Int32)), .val (.ref b19), .val (.int p1), .unset, .unset, .unset] [(.int (3 : Int32))])) (fun t_ kk => XS.iload X24.here hx rfl (hb hby at_56) rfl kk) ?_
    refine own_st (F' := T24.setTop (mkF m 59 #[.val (.int p1), .val (.int p2), .val (.int p3), .val (.int p4), .val (.int p5), .val (.int (3 : Int32)), .val (.ref b19), .val (.int p1), .unset, .unset, .unset] [(.int (2 : Int32)), (.int (3 : Int32))])) (fun t_ kk => XS.iconst X24.here hx rfl (hb hby at_58) kk) ?_
    refine own_st (F' := T24.setTop (mkF m 65 #[.val (.int p1), .val (.int p2), .val (.int p3), .val (.int p4), .val (.int p5), .val (.int (3 : Int32)), .val (.ref b19), .val (.int p1), .unset, .unset, .unset] [])) (fun t_ kk => XS.icmpYes X24.here hx rfl (pc0 := 59) (pc' := 65) rfl (hb hby at_59) rfl (feq (by decide : ¬ ((3 : Int32) = (2 : Int32)))).2 (by decide) (by decide) kk) ?_
    refine own_st (F' := T24.setTop (mkF m 67 #[.val (.int p1), .val (.int p2), .val (.int p3), .val (.int p4), .val (.int p5), .val (.int (3 : Int32)), .val (.ref b19), .val (.int p1), .unset, .unset, .unset] [(.int (3 : Int32))])) (fun t_ kk => XS.iload X24.here hx rfl (hb hby at_65) rfl kk) ?_
    refine own_st (F' := T24.setTop (mkF m 68 #[.val (.int p1), .val (.int p2), .val (.int p3), .val (.int p4), .val (.int p5), .val (.int (3 : Int32)), .val (.ref b19), .val (.int p1), .unset, .unset, .unset] [(.int (3 : Int32)), (.int (3 : Int32))])) (fun t_ kk => XS.iconst X24.here hx rfl (hb hby at_67) kk) ?_
    refine own_st (F' := T24.setTop (mkF m 71 #[.val (.int p1), .val (.int p2), .val (.int p3), .val (.int p4), .val (.int p5), .val (.int (3 : Int32)), .val (.ref b19), .val (.int p1), .unset, .unset, .unset] [])) (fun t_ kk => XS.icmpNo X24.here hx rfl (hb hby at_68) rfl (teq (by decide : (3 : Int32) = (3 : Int32))).2 kk) ?_
    refine own_st (F' := T24.setTop (mkF m 72 #[.val (.int p1), .val (.int p2), .val (.int p3), .val (.int p4), .val (.int p5), .val (.int (3 : Int32)), .val (.ref b19), .val (.int p1), .unset, .unset, .unset] [(.int p3)])) (fun t_ kk => XS.iloadN X24.here hx rfl (hb hby at_71) rfl kk) ?_
    refine own_st (F' := T24.setTop (mkF m 74 #[.val (.int p1), .val (.int p2), .val (.int p3), .val (.int p4), .val (.int p5), .val (.int (3 : Int32)), .val (.ref b19), .val (.int p3), .unset, .unset, .unset] [])) (fun t_ kk => XS.istore X24.here hx rfl (hb hby at_72) rfl (l' := #[.val (.int p1), .val (.int p2), .val (.int p3), .val (.int p4), .val (.int p5), .val (.int (3 : Int32)), .val (.ref b19), .val (.int p3), .unset, .unset, .unset]) rfl kk) ?_
    refine own_st (F' := T24.setTop (mkF m 76 #[.val (.int p1), .val (.int p2), .val (.int p3), .val (.int p4), .val (.int p5), .val (.int (3 : Int32)), .val (.ref b19), .val (.int p3), .unset, .unset, .unset] [(.ref b19)])) (fun t_ kk => XS.aload X24.here hx rfl (hb hby at_74) rfl rfl kk) ?_
    refine own_virt X24 hx hZ (y := (⟨"com/example/coarsen/coarsen/service/Ints", "removeLast", "()I"⟩ : MethodName)) hown (hw _ (List.mem_of_getElem? (i := 20) rfl)) (hw _ (List.mem_of_getElem? (i := 21) rfl)) (hw _ (List.mem_of_getElem? (i := 23) rfl)) (hw _ (List.mem_of_getElem? (i := 22) rfl)) (hw _ (List.mem_of_getElem? (i := 3) rfl)) (hw _ (List.mem_of_getElem? (i := 24) rfl)) I24.1 (rm4 l Z a0 hw [] b19 b kb (3 : Int32) ((([(.int (0 : Int32)), (.int (0 : Int32)), (.int (0 : Int32)), (.int (0 : Int32)), (.int (0 : Int32)), (.int (0 : Int32)), (.int (0 : Int32)), (.int (0 : Int32)), (.int (0 : Int32)), (.int (0 : Int32)), (.int (0 : Int32)), (.int (0 : Int32)), (.int (0 : Int32)), (.int (0 : Int32)), (.int (0 : Int32)), (.int (0 : Int32))].set 0 (.int p1)).set 1 (.int p2)).set 2 (.int p3)) p3 h24 n0 Z24 I24 g_b19 g_b (by decide) (by decide) rfl) (by decide) (W := 0) (argsL := []) (rest := []) (by decide) (by decide) (by rw [hml]; rfl) (lenOf own_pd2 rfl) rfl rfl (Nat.le_of_eq rfl) (hb hby at_76) e24 (by decide) (by decide) ?_
    intro v25 T25 L25 hQ25 X25
    obtain ⟨rfl, N25q, Z25q, I25q⟩ := hQ25
    have N25 := Fr.app N24 N25q
    have Z25 := Nat.le_trans Z24 Z25q
    obtain ⟨h25, e25⟩ : ∃ z, T25.heap = z := ⟨_, rfl⟩
    rw [e25] at I25q Z25
    have I25 : OInts Z h25 b19 b kb (2 : Int32) ((([(.int (0 : Int32)), (.int (0 : Int32)), (.int (0 : Int32)), (.int (0 : Int32)), (.int (0 : Int32)), (.int (0 : Int32)), (.int (0 : Int32)), (.int (0 : Int32)), (.int (0 : Int32)), (.int (0 : Int32)), (.int (0 : Int32)), (.int (0 : Int32)), (.int (0 : Int32)), (.int (0 : Int32)), (.int (0 : Int32)), (.int (0 : Int32))].set 0 (.int p1)).set 1 (.int p2)).set 2 (.int p3)) := I25q
    show OWp p e below s _ _ _ (T25.setTop (mkF m 79 #[.val (.int p1), .val (.int p2), .val (.int p3), .val (.int p4), .val (.int p5), .val (.int (3 : Int32)), .val (.ref b19), .val (.int p3), .unset, .unset, .unset] [(.int p3)]))
    refine own_st (F' := T25.setTop (mkF m 81 #[.val (.int p1), .val (.int p2), .val (.int p3), .val (.int p4), .val (.int p5), .val (.int (3 : Int32)), .val (.ref b19), .val (.int p3), .val (.int p3), .unset, .unset] [])) (fun t_ kk => XS.istore X25.here hx rfl (hb hby at_79) rfl (l' := #[.val (.int p1), .val (.int p2), .val (.int p3), .val (.int p4), .val (.int p5), .val (.int (3 : Int32)), .val (.ref b19), .val (.int p3), .val (.int p3), .unset, .unset]) rfl kk) ?_
    refine own_st (F' := T25.setTop (mkF m 83 #[.val (.int p1), .val (.int p2), .val (.int p3), .val (.int p4), .val (.int p5), .val (.int (3 : Int32)), .val (.ref b19), .val (.int p3), .val (.int p3), .unset, .unset] [(.int p3)])) (fun t_ kk => XS.iload X25.here hx rfl (hb hby at_81) rfl kk) ?_
    refine own_st (F' := T25.setTop (mkF m 85 #[.val (.int p1), .val (.int p2), .val (.int p3), .val (.int p4), .val (.int p5), .val (.int (3 : Int32)), .val (.ref b19), .val (.int p3), .val (.int p3), .unset, .unset] [(.int p3), (.int p3)])) (fun t_ kk => XS.iload X25.here hx rfl (hb hby at_83) rfl kk) ?_
    refine own_st (F' := T25.setTop (mkF m 88 #[.val (.int p1), .val (.int p2), .val (.int p3), .val (.int p4), .val (.int p5), .val (.int (3 : Int32)), .val (.ref b19), .val (.int p3), .val (.int p3), .unset, .unset] [])) (fun t_ kk => XS.icmpNo X25.here hx rfl (hb hby at_85) rfl (teq (rfl : p3 = p3)).2 kk) ?_
    refine own_st (F' := T25.setTop (mkF m 89 #[.val (.int p1), .val (.int p2), .val (.int p3), .val (.int p4), .val (.int p5), .val (.int (3 : Int32)), .val (.ref b19), .val (.int p3), .val (.int p3), .unset, .unset] [(.int (1 : Int32))])) (fun t_ kk => XS.iconst X25.here hx rfl (hb hby at_88) kk) ?_
    refine own_st (F' := T25.setTop (mkF m 93 #[.val (.int p1), .val (.int p2), .val (.int p3), .val (.int p4), .val (.int p5), .val (.int (3 : Int32)), .val (.ref b19), .val (.int p3), .val (.int p3), .unset, .unset] [(.int (1 : Int32))])) (fun t_ kk => XS.goto X25.here hx rfl (pc0 := 89) (pc' := 93) rfl (hb hby at_89) (by decide) (by decide) kk) ?_
    refine own_st (F' := T25.setTop (mkF m 95 #[.val (.int p1), .val (.int p2), .val (.int p3), .val (.int p4), .val (.int p5), .val (.int (3 : Int32)), .val (.ref b19), .val (.int p3), .val (.int p3), .val (.int (1 : Int32)), .unset] [])) (fun t_ kk => XS.istore X25.here hx rfl (hb hby at_93) rfl (l' := #[.val (.int p1), .val (.int p2), .val (.int p3), .val (.int p4), .val (.int p5), .val (.int (3 : Int32)), .val (.ref b19), .val (.int p3), .val (.int p3), .val (.int (1 : Int32)), .unset]) rfl kk) ?_
    refine own_st (F' := T25.setTop (mkF m 97 #[.val (.int p1), .val (.int p2), .val (.int p3), .val (.int p4), .val (.int p5), .val (.int (3 : Int32)), .val (.ref b19), .val (.int p3), .val (.int p3), .val (.int (1 : Int32)), .unset] [(.int (1 : Int32))])) (fun t_ kk => XS.iload X25.here hx rfl (hb hby at_95) rfl kk) ?_
    refine own_st (F' := T25.setTop (mkF m 100 #[.val (.int p1), .val (.int p2), .val (.int p3), .val (.int p4), .val (.int p5), .val (.int (3 : Int32)), .val (.ref b19), .val (.int p3), .val (.int p3), .val (.int (1 : Int32)), .unset] [])) (fun t_ kk => XS.ifNo X25.here hx rfl (hb hby at_97) rfl ((if0 _ _).trans (feq (by decide : ¬ ((1 : Int32) = (0 : Int32)))).1) kk) ?_
    refine own_st (F' := T25.setTop (mkF m 102 #[.val (.int p1), .val (.int p2), .val (.int p3), .val (.int p4), .val (.int p5), .val (.int (3 : Int32)), .val (.ref b19), .val (.int p3), .val (.int p3), .val (.int (1 : Int32)), .unset] [(.ref b19)])) (fun t_ kk => XS.aload X25.here hx rfl (hb hby at_100) rfl rfl kk) ?_
    refine own_virt X25 hx hZ (y := (⟨"com/example/coarsen/coarsen/service/Ints", "size", "()I"⟩ : MethodName)) hown (hw _ (List.mem_of_getElem? (i := 25) rfl)) (hw _ (List.mem_of_getElem? (i := 26) rfl)) (hw _ (List.mem_of_getElem? (i := 28) rfl)) (hw _ (List.mem_of_getElem? (i := 27) rfl)) (hw _ (List.mem_of_getElem? (i := 3) rfl)) (hw _ (List.mem_of_getElem? (i := 29) rfl)) I25.1 (rm5 l Z a0 hw [] b19 b kb (2 : Int32) ((([(.int (0 : Int32)), (.int (0 : Int32)), (.int (0 : Int32)), (.int (0 : Int32)), (.int (0 : Int32)), (.int (0 : Int32)), (.int (0 : Int32)), (.int (0 : Int32)), (.int (0 : Int32)), (.int (0 : Int32)), (.int (0 : Int32)), (.int (0 : Int32)), (.int (0 : Int32)), (.int (0 : Int32)), (.int (0 : Int32)), (.int (0 : Int32))].set 0 (.int p1)).set 1 (.int p2)).set 2 (.int p3)) h25 n0 Z25 I25 g_b19 g_b) (by decide) (W := 0) (argsL := []) (rest := []) (by decide) (by decide) (by rw [hml]; rfl) (lenOf own_pd2 rfl) rfl rfl (Nat.le_of_eq rfl) (hb hby at_102) e25 (by decide) (by decide) ?_
    intro v26 T26 L26 hQ26 X26
    obtain ⟨rfl, N26q, e26⟩ := hQ26
    have N26 := Fr.app N25 N26q
    show OWp p e below s _ _ _ (T26.setTop (mkF m 105 #[.val (.int p1), .val (.int p2), .val (.int p3), .val (.int p4), .val (.int p5), .val (.int (3 : Int32)), .val (.ref b19), .val (.int p3), .val (.int p3), .val (.int (1 : Int32)), .unset] [(.int (2 : Int32))]))
    refine own_st (F' := T26.setTop (mkF m 107 #[.val (.int p1), .val (.int p2), .val (.int p3), .val (.int p4), .val (.int p5), .val (.int (3 : Int32)), .val (.ref b19), .val (.int p3), .val (.int p3), .val (.int (1 : Int32)), .unset] [(.int (3 : Int32)), (.int (2 : Int32))])) (fun t_ kk => XS.iload X26.here hx rfl (hb hby at_105) rfl kk) ?_
    refine own_st (F' := T26.setTop (mkF m 108 #[.val (.int p1), .val (.int p2), .val (.int p3), .val (.int p4), .val (.int p5), .val (.int (3 : Int32)), .val (.ref b19), .val (.int p3), .val (.int p3), .val (.int (1 : Int32)), .unset] [(.int (1 : Int32)), (.int (3 : Int32)), (.int (2 : Int32))])) (fun t_ kk => XS.iconst X26.here hx rfl (hb hby at_107) kk) ?_
    refine own_st (F' := T26.setTop (mkF m 109 #[.val (.int p1), .val (.int p2), .val (.int p3), .val (.int p4), .val (.int p5), .val (.int (3 : Int32)), .val (.ref b19), .val (.int p3), .val (.int p3), .val (.int (1 : Int32)), .unset] [(.int (2 : Int32)), (.int (2 : Int32))])) (fun t_ kk => XS.isub X26.here hx rfl (hb hby at_108) rfl kk) ?_
    refine own_st (F' := T26.setTop (mkF m 112 #[.val (.int p1), .val (.int p2), .val (.int p3), .val (.int p4), .val (.int p5), .val (.int (3 : Int32)), .val (.ref b19), .val (.int p3), .val (.int p3), .val (.int (1 : Int32)), .unset] [])) (fun t_ kk => XS.icmpNo X26.here hx rfl (hb hby at_109) rfl (teq (by decide : (2 : Int32) = (2 : Int32))).2 kk) ?_
    refine own_st (F' := T26.setTop (mkF m 113 #[.val (.int p1), .val (.int p2), .val (.int p3), .val (.int p4), .val (.int p5), .val (.int (3 : Int32)), .val (.ref b19), .val (.int p3), .val (.int p3), .val (.int (1 : Int32)), .unset] [(.int (1 : Int32))])) (fun t_ kk => XS.iconst X26.here hx rfl (hb hby at_112) kk) ?_
    refine own_st (F' := T26.setTop (mkF m 117 #[.val (.int p1), .val (.int p2), .val (.int p3), .val (.int p4), .val (.int p5), .val (.int (3 : Int32)), .val (.ref b19), .val (.int p3), .val (.int p3), .val (.int (1 : Int32)), .unset] [(.int (1 : Int32))])) (fun t_ kk => XS.goto X26.here hx rfl (pc0 := 113) (pc' := 117) rfl (hb hby at_113) (by decide) (by decide) kk) ?_
    refine own_st (F' := T26.setTop (mkF m 119 #[.val (.int p1), .val (.int p2), .val (.int p3), .val (.int p4), .val (.int p5), .val (.int (3 : Int32)), .val (.ref b19), .val (.int p3), .val (.int p3), .val (.int (1 : Int32)), .unset] [])) (fun t_ kk => XS.istore X26.here hx rfl (hb hby at_117) rfl (l' := #[.val (.int p1), .val (.int p2), .val (.int p3), .val (.int p4), .val (.int p5), .val (.int (3 : Int32)), .val (.ref b19), .val (.int p3), .val (.int p3), .val (.int (1 : Int32)), .unset]) rfl kk) ?_
    refine own_st (F' := T26.setTop (mkF m 121 #[.val (.int p1), .val (.int p2), .val (.int p3), .val (.int p4), .val (.int p5), .val (.int (3 : Int32)), .val (.ref b19), .val (.int p3), .val (.int p3), .val (.int (1 : Int32)), .unset] [(.int (3 : Int32))])) (fun t_ kk => XS.iload X26.here hx rfl (hb hby at_119) rfl kk) ?_
    refine own_st (F' := T26.setTop (mkF m 122 #[.val (.int p1), .val (.int p2), .val (.int p3), .val (.int p4), .val (.int p5), .val (.int (3 : Int32)), .val (.ref b19), .val (.int p3), .val (.int p3), .val (.int (1 : Int32)), .unset] [(.int (2 : Int32)), (.int (3 : Int32))])) (fun t_ kk => XS.iconst X26.here hx rfl (hb hby at_121) kk) ?_
    refine own_st (F' := T26.setTop (mkF m 125 #[.val (.int p1), .val (.int p2), .val (.int p3), .val (.int p4), .val (.int p5), .val (.int (3 : Int32)), .val (.ref b19), .val (.int p3), .val (.int p3), .val (.int (1 : Int32)), .unset] [])) (fun t_ kk => XS.icmpNo X26.here hx rfl (hb hby at_122) rfl (flt (by decide : ¬ ((3 : Int32) < (2 : Int32)))).1 kk) ?_
    refine own_st (F' := T26.setTop (mkF m 127 #[.val (.int p1), .val (.int p2), .val (.int p3), .val (.int p4), .val (.int p5), .val (.int (3 : Int32)), .val (.ref b19), .val (.int p3), .val (.int p3), .val (.int (1 : Int32)), .unset] [(.int (1 : Int32))])) (fun t_ kk => XS.iload X26.here hx rfl (hb hby at_125) rfl kk) ?_
    refine own_st (F' := T26.setTop (mkF m 130 #[.val (.int p1), .val (.int p2), .val (.int p3), .val (.int p4), .val (.int p5), .val (.int (3 : Int32)), .val (.ref b19), .val (.int p3), .val (.int p3), .val (.int (1 : Int32)), .unset] [])) (fun t_ kk => XS.ifNo X26.here hx rfl (hb hby at_127) rfl ((if0 _ _).trans (feq (by decide : ¬ ((1 : Int32) = (0 : Int32)))).1) kk) ?_
    refine own_st (F' := T26.setTop (mkF m 132 #[.val (.int p1), .val (.int p2), .val (.int p3), .val (.int p4), .val (.int p5), .val (.int (3 : Int32)), .val (.ref b19), .val (.int p3), .val (.int p3), .val (.int (1 : Int32)), .unset] [(.ref b19)])) (fun t_ kk => XS.aload X26.here hx rfl (hb hby at_130) rfl rfl kk) ?_
    refine own_st (F' := T26.setTop (mkF m 133 #[.val (.int p1), .val (.int p2), .val (.int p3), .val (.int p4), .val (.int p5), .val (.int (3 : Int32)), .val (.ref b19), .val (.int p3), .val (.int p3), .val (.int (1 : Int32)), .unset] [(.int (0 : Int32)), (.ref b19)])) (fun t_ kk => XS.iconst X26.here hx rfl (hb hby at_132) kk) ?_
    refine own_virt X26 hx hZ (y := (⟨"com/example/coarsen/coarsen/service/Ints", "get", "(I)I"⟩ : MethodName)) hown (hw _ (List.mem_of_getElem? (i := 30) rfl)) (hw _ (List.mem_of_getElem? (i := 31) rfl)) (hw _ (List.mem_of_getElem? (i := 33) rfl)) (hw _ (List.mem_of_getElem? (i := 32) rfl)) (hw _ (List.mem_of_getElem? (i := 3) rfl)) (hw _ (List.mem_of_getElem? (i := 34) rfl)) I25.1 (rm6 l Z a0 hw [] b19 b kb (2 : Int32) ((([(.int (0 : Int32)), (.int (0 : Int32)), (.int (0 : Int32)), (.int (0 : Int32)), (.int (0 : Int32)), (.int (0 : Int32)), (.int (0 : Int32)), (.int (0 : Int32)), (.int (0 : Int32)), (.int (0 : Int32)), (.int (0 : Int32)), (.int (0 : Int32)), (.int (0 : Int32)), (.int (0 : Int32)), (.int (0 : Int32)), (.int (0 : Int32))].set 0 (.int p1)).set 1 (.int p2)).set 2 (.int p3)) (0 : Int32) p1 h25 n0 Z25 I25 g_b19 g_b (by decide) (by decide) rfl) (by decide) (W := 0) (argsL := [(.int (0 : Int32))]) (rest := []) (by decide) (by decide) (by rw [hml]; rfl) (lenOf own_pd1 rfl) rfl rfl (Nat.le_of_eq rfl) (hb hby at_133) e26 (by decide) (by decide) ?_
    intro v27 T27 L27 hQ27 X27
    obtain ⟨rfl, N27q, e27⟩ := hQ27
    have N27 := Fr.app N26 N27q
    show OWp p e below s _ _ _ (T27.setTop (mkF m 136 #[.val (.int p1), .val (.int p2), .val (.int p3), .val (.int p4), .val (.int p5), .val (.int (3 : Int32)), .val (.ref b19), .val (.int p3), .val (.int p3), .val (.int (1 : Int32)), .unset] [(.int p1)]))
    refine own_st (F' := T27.setTop (mkF m 137 #[.val (.int p1), .val (.int p2), .val (.int p3), .val (.int p4), .val (.int p5), .val (.int (3 : Int32)), .val (.ref b19), .val (.int p3), .val (.int p3), .val (.int (1 : Int32)), .unset] [(.int p1), (.int p1)])) (fun t_ kk => XS.iloadN X27.here hx rfl (hb hby at_136) rfl kk) ?_
    refine own_st (F' := T27.setTop (mkF m 140 #[.val (.int p1), .val (.int p2), .val (.int p3), .val (.int p4), .val (.int p5), .val (.int (3 : Int32)), .val (.ref b19), .val (.int p3), .val (.int p3), .val (.int (1 : Int32)), .unset] [])) (fun t_ kk => XS.icmpNo X27.here hx rfl (hb hby at_137) rfl (teq (rfl : p1 = p1)).2 kk) ?_
    refine own_st (F' := T27.setTop (mkF m 141 #[.val (.int p1), .val (.int p2), .val (.int p3), .val (.int p4), .val (.int p5), .val (.int (3 : Int32)), .val (.ref b19), .val (.int p3), .val (.int p3), .val (.int (1 : Int32)), .unset] [(.int (1 : Int32))])) (fun t_ kk => XS.iconst X27.here hx rfl (hb hby at_140) kk) ?_
    refine own_st (F' := T27.setTop (mkF m 145 #[.val (.int p1), .val (.int p2), .val (.int p3), .val (.int p4), .val (.int p5), .val (.int (3 : Int32)), .val (.ref b19), .val (.int p3), .val (.int p3), .val (.int (1 : Int32)), .unset] [(.int (1 : Int32))])) (fun t_ kk => XS.goto X27.here hx rfl (pc0 := 141) (pc' := 145) rfl (hb hby at_141) (by decide) (by decide) kk) ?_
    refine own_st (F' := T27.setTop (mkF m 147 #[.val (.int p1), .val (.int p2), .val (.int p3), .val (.int p4), .val (.int p5), .val (.int (3 : Int32)), .val (.ref b19), .val (.int p3), .val (.int p3), .val (.int (1 : Int32)), .unset] [])) (fun t_ kk => XS.istore X27.here hx rfl (hb hby at_145) rfl (l' := #[.val (.int p1), .val (.int p2), .val (.int p3), .val (.int p4), .val (.int p5), .val (.int (3 : Int32)), .val (.ref b19), .val (.int p3), .val (.int p3), .val (.int (1 : Int32)), .unset]) rfl kk) ?_
    refine own_st (F' := T27.setTop (mkF m 149 #[.val (.int p1), .val (.int p2), .val (.int p3), .val (.int p4), .val (.int p5), .val (.int (3 : Int32)), .val (.ref b19), .val (.int p3), .val (.int p3), .val (.int (1 : Int32)), .unset] [(.int (3 : Int32))])) (fun t_ kk => XS.iload X27.here hx rfl (hb hby at_147) rfl kk) ?_
    refine own_st (F' := T27.setTop (mkF m 150 #[.val (.int p1), .val (.int p2), .val (.int p3), .val (.int p4), .val (.int p5), .val (.int (3 : Int32)), .val (.ref b19), .val (.int p3), .val (.int p3), .val (.int (1 : Int32)), .unset] [(.int (3 : Int32)), (.int (3 : Int32))])) (fun t_ kk => XS.iconst X27.here hx rfl (hb hby at_149) kk) ?_
    refine own_st (F' := T27.setTop (mkF m 153 #[.val (.int p1), .val (.int p2), .val (.int p3), .val (.int p4), .val (.int p5), .val (.int (3 : Int32)), .val (.ref b19), .val (.int p3), .val (.int p3), .val (.int (1 : Int32)), .unset] [])) (fun t_ kk => XS.icmpNo X27.here hx rfl (hb hby at_150) rfl (teq (by decide : (3 : Int32) = (3 : Int32))).2 kk) ?_
    refine own_st (F' := T27.setTop (mkF m 155 #[.val (.int p1), .val (.int p2), .val (.int p3), .val (.int p4), .val (.int p5), .val (.int (3 : Int32)), .val (.ref b19), .val (.int p3), .val (.int p3), .val (.int (1 : Int32)), .unset] [(.int (1 : Int32))])) (fun t_ kk => XS.iload X27.here hx rfl (hb hby at_153) rfl kk) ?_
    refine own_st (F' := T27.setTop (mkF m 158 #[.val (.int p1), .val (.int p2), .val (.int p3), .val (.int p4), .val (.int p5), .val (.int (3 : Int32)), .val (.ref b19), .val (.int p3), .val (.int p3), .val (.int (1 : Int32)), .unset] [])) (fun t_ kk => XS.ifNo X27.here hx rfl (hb hby at_155) rfl ((if0 _ _).trans (feq (by decide : ¬ ((1 : Int32) = (0 : Int32)))).1) kk) ?_
    refine own_st (F' := T27.setTop (mkF m 160 #[.val (.int p1), .val (.int p2), .val (.int p3), .val (.int p4), .val (.int p5), .val (.int (3 : Int32)), .val (.ref b19), .val (.int p3), .val (.int p3), .val (.int (1 : Int32)), .unset] [(.ref b19)])) (fun t_ kk => XS.aload X27.here hx rfl (hb hby at_158) rfl rfl kk) ?_
    refine own_st (F' := T27.setTop (mkF m 161 #[.val (.int p1), .val (.int p2), .val (.int p3), .val (.int p4), .val (.int p5), .val (.int (3 : Int32)), .val (.ref b19), .val (.int p3), .val (.int p3), .val (.int (1 : Int32)), .unset] [(.int (1 : Int32)), (.ref b19)])) (fun t_ kk => XS.iconst X27.here hx rfl (hb hby at_160) kk) ?_
    refine own_virt X27 hx hZ (y := (⟨"com/example/coarsen/coarsen/service/Ints", "get", "(I)I"⟩ : MethodName)) hown (hw _ (List.mem_of_getElem? (i := 30) rfl)) (hw _ (List.mem_of_getElem? (i := 31) rfl)) (hw _ (List.mem_of_getElem? (i := 33) rfl)) (hw _ (List.mem_of_getElem? (i := 32) rfl)) (hw _ (List.mem_of_getElem? (i := 3) rfl)) (hw _ (List.mem_of_getElem? (i := 34) rfl)) I25.1 (rm6 l Z a0 hw [] b19 b kb (2 : Int32) ((([(.int (0 : Int32)), (.int (0 : Int32)), (.int (0 : Int32)), (.int (0 : Int32)), (.int (0 : Int32)), (.int (0 : Int32)), (.int (0 : Int32)), (.int (0 : Int32)), (.int (0 : Int32)), (.int (0 : Int32)), (.int (0 : Int32)), (.int (0 : Int32)), (.int (0 : Int32)), (.int (0 : Int32)), (.int (0 : Int32)), (.int (0 : Int32))].set 0 (.int p1)).set 1 (.int p2)).set 2 (.int p3)) (1 : Int32) p2 h25 n0 Z25 I25 g_b19 g_b (by decide) (by decide) rfl) (by decide) (W := 0) (argsL := [(.int (1 : Int32))]) (rest := []) (by decide) (by decide) (by rw [hml]; rfl) (lenOf own_pd1 rfl) rfl rfl (Nat.le_of_eq rfl) (hb hby at_161) e27 (by decide) (by decide) ?_
    intro v28 T28 L28 hQ28 X28
    obtain ⟨rfl, N28q, e28⟩ := hQ28
    have N28 := Fr.app N27 N28q
    show OWp p e below s _ _ _ (T28.setTop (mkF m 164 #[.val (.int p1), .val (.int p2), .val (.int p3), .val (.int p4), .val (.int p5), .val (.int (3 : Int32)), .val (.ref b19), .val (.int p3), .val (.int p3), .val (.int (1 : Int32)), .unset] [(.int p2)]))
    refine own_st (F' := T28.setTop (mkF m 165 #[.val (.int p1), .val (.int p2), .val (.int p3), .val (.int p4), .val (.int p5), .val (.int (3 : Int32)), .val (.ref b19), .val (.int p3), .val (.int p3), .val (.int (1 : Int32)), .unset] [(.int p2), (.int p2)])) (fun t_ kk => XS.iloadN X28.here hx rfl (hb hby at_164) rfl kk) ?_
    refine own_st (F' := T28.setTop (mkF m 168 #[.val (.int p1), .val (.int p2), .val (.int p3), .val (.int p4), .val (.int p5), .val (.int (3 : Int32)), .val (.ref b19), .val (.int p3), .val (.int p3), .val (.int (1 : Int32)), .unset] [])) (fun t_ kk => XS.icmpNo X28.here hx rfl (hb hby at_165) rfl (teq (rfl : p2 = p2)).2 kk) ?_
    refine own_st (F' := T28.setTop (mkF m 169 #[.val (.int p1), .val (.int p2), .val (.int p3), .val (.int p4), .val (.int p5), .val (.int (3 : Int32)), .val (.ref b19), .val (.int p3), .val (.int p3), .val (.int (1 : Int32)), .unset] [(.int (1 : Int32))])) (fun t_ kk => XS.iconst X28.here hx rfl (hb hby at_168) kk) ?_
    refine own_st (F' := T28.setTop (mkF m 173 #[.val (.int p1), .val (.int p2), .val (.int p3), .val (.int p4), .val (.int p5), .val (.int (3 : Int32)), .val (.ref b19), .val (.int p3), .val (.int p3), .val (.int (1 : Int32)), .unset] [(.int (1 : Int32))])) (fun t_ kk => XS.goto X28.here hx rfl (pc0 := 169) (pc' := 173) rfl (hb hby at_169) (by decide) (by decide) kk) ?_
    refine own_st (F' := T28.setTop (mkF m 175 #[.val (.int p1), .val (.int p2), .val (.int p3), .val (.int p4), .val (.int p5), .val (.int (3 : Int32)), .val (.ref b19), .val (.int p3), .val (.int p3), .val (.int (1 : Int32)), .unset] [])) (fun t_ kk => XS.istore X28.here hx rfl (hb hby at_173) rfl (l' := #[.val (.int p1), .val (.int p2), .val (.int p3), .val (.int p4), .val (.int p5), .val (.int (3 : Int32)), .val (.ref b19), .val (.int p3), .val (.int p3), .val (.int (1 : Int32)), .unset]) rfl kk) ?_
    refine own_st (F' := T28.setTop (mkF m 177 #[.val (.int p1), .val (.int p2), .val (.int p3), .val (.int p4), .val (.int p5), .val (.int (3 : Int32)), .val (.ref b19), .val (.int p3), .val (.int p3), .val (.int (1 : Int32)), .unset] [(.ref b19)])) (fun t_ kk => XS.aload X28.here hx rfl (hb hby at_175) rfl rfl kk) ?_
    refine own_st (F' := T28.setTop (mkF m 178 #[.val (.int p1), .val (.int p2), .val (.int p3), .val (.int p4), .val (.int p5), .val (.int (3 : Int32)), .val (.ref b19), .val (.int p3), .val (.int p3), .val (.int (1 : Int32)), .unset] [(.int p4), (.ref b19)])) (fun t_ kk => XS.iloadN X28.here hx rfl (hb hby at_177) rfl kk) ?_
    refine own_virt X28 hx hZ (y := (⟨"com/example/coarsen/coarsen/service/Ints", "add", "(I)I"⟩ : MethodName)) hown (hw _ (List.mem_of_getElem? (i := 13) rfl)) (hw _ (List.mem_of_getElem? (i := 14) rfl)) (hw _ (List.mem_of_getElem? (i := 16) rfl)) (hw _ (List.mem_of_getElem? (i := 15) rfl)) (hw _ (List.mem_of_getElem? (i := 3) rfl)) (hw _ (List.mem_of_getElem? (i := 17) rfl)) I25.1 (rm3 l Z a0 hw [] b19 b kb (2 : Int32) ((([(.int (0 : Int32)), (.int (0 : Int32)), (.int (0 : Int32)), (.int (0 : Int32)), (.int (0 : Int32)), (.int (0 : Int32)), (.int (0 : Int32)), (.int (0 : Int32)), (.int (0 : Int32)), (.int (0 : Int32)), (.int (0 : Int32)), (.int (0 : Int32)), (.int (0 : Int32)), (.int (0 : Int32)), (.int (0 : Int32)), (.int (0 : Int32))].set 0 (.int p1)).set 1 (.int p2)).set 2 (.int p3)) p4 2 h25 n0 Z25 I25 g_b19 g_b (by decide) (by decide) (by decide)) (by decide) (W := 0) (argsL := [(.int p4)]) (rest := []) (by decide) (by decide) (by rw [hml]; rfl) (lenOf own_pd1 rfl) rfl rfl (Nat.le_of_eq rfl) (hb hby at_178) e28 (by decide) (by decide) ?_
    intro v29 T29 L29 hQ29 X29
    obtain ⟨rfl, N29q, Z29q, I29q⟩ := hQ29
    have N29 := Fr.app N28 N29q
    have Z29 := Nat.le_trans Z25 Z29q
    obtain ⟨h29, e29⟩ : ∃ z, T29.heap = z := ⟨_, rfl⟩
    rw [e29] at I29q Z29
    have I29 : OInts Z h29 b19 b kb (3 : Int32) (((([(.int (0 : Int32)), (.int (0 : Int32)), (.int (0 : Int32)), (.int (0 : Int32)), (.int (0 : Int32)), (.int (0 : Int32)), (.int (0 : Int32)), (.int (0 : Int32)), (.int (0 : Int32)), (.int (0 : Int32)), (.int (0 : Int32)), (.int (0 : Int32)), (.int (0 : Int32)), (.int (0 : Int32)), (.int (0 : Int32)), (.int (0 : Int32))].set 0 (.int p1)).set 1 (.int p2)).set 2 (.int p3)).set 2 (.int p4)) := I29q
    show OWp p e below s _ _ _ (T29.setTop (mkF m 181 #[.val (.int p1), .val (.int p2), .val (.int p3), .val (.int p4), .val (.int p5), .val (.int (3 : Int32)), .val (.ref b19), .val (.int p3), .val (.int p3), .val (.int (1 : Int32)), .unset] [(.int (2 : Int32))]))
    refine own_st (F' := T29.setTop (mkF m 183 #[.val (.int p1), .val (.int p2), .val (.int p3), .val (.int p4), .val (.int p5), .val (.int (3 : Int32)), .val (.ref b19), .val (.int p3), .val (.int p3), .val (.int (1 : Int32)), .val (.int (2 : Int32))] [])) (fun t_ kk => XS.istore X29.here hx rfl (hb hby at_181) rfl (l' := #[.val (.int p1), .val (.int p2), .val (.int p3), .val (.int p4), .val (.int p5), .val (.int (3 : Int32)), .val (.ref b19), .val (.int p3), .val (.int p3), .val (.int (1 : Int32)), .val (.int (2 : Int32))]) rfl kk) ?_
    refine own_st (F' := T29.setTop (mkF m 185 #[.val (.int p1), .val (.int p2), .val (.int p3), .val (.int p4), .val (.int p5), .val (.int (3 : Int32)), .val (.ref b19), .val (.int p3), .val (.int p3), .val (.int (1 : Int32)), .val (.int (2 : Int32))] [(.int (1 : Int32))])) (fun t_ kk => XS.iload X29.here hx rfl (hb hby at_183) rfl kk) ?_
    refine own_st (F' := T29.setTop (mkF m 188 #[.val (.int p1), .val (.int p2), .val (.int p3), .val (.int p4), .val (.int p5), .val (.int (3 : Int32)), .val (.ref b19), .val (.int p3), .val (.int p3), .val (.int (1 : Int32)), .val (.int (2 : Int32))] [])) (fun t_ kk => XS.ifNo X29.here hx rfl (hb hby at_185) rfl ((if0 _ _).trans (feq (by decide : ¬ ((1 : Int32) = (0 : Int32)))).1) kk) ?_
    refine own_st (F' := T29.setTop (mkF m 190 #[.val (.int p1), .val (.int p2), .val (.int p3), .val (.int p4), .val (.int p5), .val (.int (3 : Int32)), .val (.ref b19), .val (.int p3), .val (.int p3), .val (.int (1 : Int32)), .val (.int (2 : Int32))] [(.int (2 : Int32))])) (fun t_ kk => XS.iload X29.here hx rfl (hb hby at_188) rfl kk) ?_
    refine own_st (F' := T29.setTop (mkF m 192 #[.val (.int p1), .val (.int p2), .val (.int p3), .val (.int p4), .val (.int p5), .val (.int (3 : Int32)), .val (.ref b19), .val (.int p3), .val (.int p3), .val (.int (1 : Int32)), .val (.int (2 : Int32))] [(.int (3 : Int32)), (.int (2 : Int32))])) (fun t_ kk => XS.iload X29.here hx rfl (hb hby at_190) rfl kk) ?_
    refine own_st (F' := T29.setTop (mkF m 193 #[.val (.int p1), .val (.int p2), .val (.int p3), .val (.int p4), .val (.int p5), .val (.int (3 : Int32)), .val (.ref b19), .val (.int p3), .val (.int p3), .val (.int (1 : Int32)), .val (.int (2 : Int32))] [(.int (1 : Int32)), (.int (3 : Int32)), (.int (2 : Int32))])) (fun t_ kk => XS.iconst X29.here hx rfl (hb hby at_192) kk) ?_
    refine own_st (F' := T29.setTop (mkF m 194 #[.val (.int p1), .val (.int p2), .val (.int p3), .val (.int p4), .val (.int p5), .val (.int (3 : Int32)), .val (.ref b19), .val (.int p3), .val (.int p3), .val (.int (1 : Int32)), .val (.int (2 : Int32))] [(.int (2 : Int32)), (.int (2 : Int32))])) (fun t_ kk => XS.isub X29.here hx rfl (hb hby at_193) rfl kk) ?_
    refine own_st (F' := T29.setTop (mkF m 197 #[.val (.int p1), .val (.int p2), .val (.int p3), .val (.int p4), .val (.int p5), .val (.int (3 : Int32)), .val (.ref b19), .val (.int p3), .val (.int p3), .val (.int (1 : Int32)), .val (.int (2 : Int32))] [])) (fun t_ kk => XS.icmpNo X29.here hx rfl (hb hby at_194) rfl (teq (by decide : (2 : Int32) = (2 : Int32))).2 kk) ?_
    refine own_st (F' := T29.setTop (mkF m 198 #[.val (.int p1), .val (.int p2), .val (.int p3), .val (.int p4), .val (.int p5), .val (.int (3 : Int32)), .val (.ref b19), .val (.int p3), .val (.int p3), .val (.int (1 : Int32)), .val (.int (2 : Int32))] [(.int (1 : Int32))])) (fun t_ kk => XS.iconst X29.here hx rfl (hb hby at_197) kk) ?_
    refine own_st (F' := T29.setTop (mkF m 202 #[.val (.int p1), .val (.int p2), .val (.int p3), .val (.int p4), .val (.int p5), .val (.int (3 : Int32)), .val (.ref b19), .val (.int p3), .val (.int p3), .val (.int (1 : Int32)), .val (.int (2 : Int32))] [(.int (1 : Int32))])) (fun t_ kk => XS.goto X29.here hx rfl (pc0 := 198) (pc' := 202) rfl (hb hby at_198) (by decide) (by decide) kk) ?_
    refine own_st (F' := T29.setTop (mkF m 204 #[.val (.int p1), .val (.int p2), .val (.int p3), .val (.int p4), .val (.int p5), .val (.int (3 : Int32)), .val (.ref b19), .val (.int p3), .val (.int p3), .val (.int (1 : Int32)), .val (.int (2 : Int32))] [])) (fun t_ kk => XS.istore X29.here hx rfl (hb hby at_202) rfl (l' := #[.val (.int p1), .val (.int p2), .val (.int p3), .val (.int p4), .val (.int p5), .val (.int (3 : Int32)), .val (.ref b19), .val (.int p3), .val (.int p3), .val (.int (1 : Int32)), .val (.int (2 : Int32))]) rfl kk) ?_
    refine own_st (F' := T29.setTop (mkF m 206 #[.val (.int p1), .val (.int p2), .val (.int p3), .val (.int p4), .val (.int p5), .val (.int (3 : Int32)), .val (.ref b19), .val (.int p3), .val (.int p3), .val (.int (1 : Int32)), .val (.int (2 : Int32))] [(.int (1 : Int32))])) (fun t_ kk => XS.iload X29.here hx rfl (hb hby at_204) rfl kk) ?_
    refine own_st (F' := T29.setTop (mkF m 209 #[.val (.int p1), .val (.int p2), .val (.int p3), .val (.int p4), .val (.int p5), .val (.int (3 : Int32)), .val (.ref b19), .val (.int p3), .val (.int p3), .val (.int (1 : Int32)), .val (.int (2 : Int32))] [])) (fun t_ kk => XS.ifNo X29.here hx rfl (hb hby at_206) rfl ((if0 _ _).trans (feq (by decide : ¬ ((1 : Int32) = (0 : Int32)))).1) kk) ?_
    refine own_st (F' := T29.setTop (mkF m 211 #[.val (.int p1), .val (.int p2), .val (.int p3), .val (.int p4), .val (.int p5), .val (.int (3 : Int32)), .val (.ref b19), .val (.int p3), .val (.int p3), .val (.int (1 : Int32)), .val (.int (2 : Int32))] [(.ref b19)])) (fun t_ kk => XS.aload X29.here hx rfl (hb hby at_209) rfl rfl kk) ?_
    refine own_st (F' := T29.setTop (mkF m 213 #[.val (.int p1), .val (.int p2), .val (.int p3), .val (.int p4), .val (.int p5), .val (.int (3 : Int32)), .val (.ref b19), .val (.int p3), .val (.int p3), .val (.int (1 : Int32)), .val (.int (2 : Int32))] [(.int (3 : Int32)), (.ref b19)])) (fun t_ kk => XS.iload X29.here hx rfl (hb hby at_211) rfl kk) ?_
    refine own_st (F' := T29.setTop (mkF m 214 #[.val (.int p1), .val (.int p2), .val (.int p3), .val (.int p4), .val (.int p5), .val (.int (3 : Int32)), .val (.ref b19), .val (.int p3), .val (.int p3), .val (.int (1 : Int32)), .val (.int (2 : Int32))] [(.int (1 : Int32)), (.int (3 : Int32)), (.ref b19)])) (fun t_ kk => XS.iconst X29.here hx rfl (hb hby at_213) kk) ?_
    refine own_st (F' := T29.setTop (mkF m 215 #[.val (.int p1), .val (.int p2), .val (.int p3), .val (.int p4), .val (.int p5), .val (.int (3 : Int32)), .val (.ref b19), .val (.int p3), .val (.int p3), .val (.int (1 : Int32)), .val (.int (2 : Int32))] [(.int (2 : Int32)), (.ref b19)])) (fun t_ kk => XS.isub X29.here hx rfl (hb hby at_214) rfl kk) ?_
    refine own_virt X29 hx hZ (y := (⟨"com/example/coarsen/coarsen/service/Ints", "get", "(I)I"⟩ : MethodName)) hown (hw _ (List.mem_of_getElem? (i := 30) rfl)) (hw _ (List.mem_of_getElem? (i := 31) rfl)) (hw _ (List.mem_of_getElem? (i := 33) rfl)) (hw _ (List.mem_of_getElem? (i := 32) rfl)) (hw _ (List.mem_of_getElem? (i := 3) rfl)) (hw _ (List.mem_of_getElem? (i := 34) rfl)) I29.1 (rm6 l Z a0 hw [] b19 b kb (3 : Int32) (((([(.int (0 : Int32)), (.int (0 : Int32)), (.int (0 : Int32)), (.int (0 : Int32)), (.int (0 : Int32)), (.int (0 : Int32)), (.int (0 : Int32)), (.int (0 : Int32)), (.int (0 : Int32)), (.int (0 : Int32)), (.int (0 : Int32)), (.int (0 : Int32)), (.int (0 : Int32)), (.int (0 : Int32)), (.int (0 : Int32)), (.int (0 : Int32))].set 0 (.int p1)).set 1 (.int p2)).set 2 (.int p3)).set 2 (.int p4)) (2 : Int32) p4 h29 n0 Z29 I29 g_b19 g_b (by decide) (by decide) rfl) (by decide) (W := 0) (argsL := [(.int (2 : Int32))]) (rest := []) (by decide) (by decide) (by rw [hml]; rfl) (lenOf own_pd1 rfl) rfl rfl (Nat.le_of_eq rfl) (hb hby at_215) e29 (by decide) (by decide) ?_
    intro v30 T30 L30 hQ30 X30
    obtain ⟨rfl, N30q, e30⟩ := hQ30
    have N30 := Fr.app N29 N30q
    show OWp p e below s _ _ _ (T30.setTop (mkF m 218 #[.val (.int p1), .val (.int p2), .val (.int p3), .val (.int p4), .val (.int p5), .val (.int (3 : Int32)), .val (.ref b19), .val (.int p3), .val (.int p3), .val (.int (1 : Int32)), .val (.int (2 : Int32))] [(.int p4)]))
    refine own_st (F' := T30.setTop (mkF m 219 #[.val (.int p1), .val (.int p2), .val (.int p3), .val (.int p4), .val (.int p5), .val (.int (3 : Int32)), .val (.ref b19), .val (.int p3), .val (.int p3), .val (.int (1 : Int32)), .val (.int (2 : Int32))] [(.int p4), (.int p4)])) (fun t_ kk => XS.iloadN X30.here hx rfl (hb hby at_218) rfl kk) ?_
    refine own_st (F' := T30.setTop (mkF m 222 #[.val (.int p1), .val (.int p2), .val (.int p3), .val (.int p4), .val (.int p5), .val (.int (3 : Int32)), .val (.ref b19), .val (.int p3), .val (.int p3), .val (.int (1 : Int32)), .val (.int (2 : Int32))] [])) (fun t_ kk => XS.icmpNo X30.here hx rfl (hb hby at_219) rfl (teq (rfl : p4 = p4)).2 kk) ?_
    refine own_st (F' := T30.setTop (mkF m 223 #[.val (.int p1), .val (.int p2), .val (.int p3), .val (.int p4), .val (.int p5), .val (.int (3 : Int32)), .val (.ref b19), .val (.int p3), .val (.int p3), .val (.int (1 : Int32)), .val (.int (2 : Int32))] [(.int (1 : Int32))])) (fun t_ kk => XS.iconst X30.here hx rfl (hb hby at_222) kk) ?_
    refine own_st (F' := T30.setTop (mkF m 227 #[.val (.int p1), .val (.int p2), .val (.int p3), .val (.int p4), .val (.int p5), .val (.int (3 : Int32)), .val (.ref b19), .val (.int p3), .val (.int p3), .val (.int (1 : Int32)), .val (.int (2 : Int32))] [(.int (1 : Int32))])) (fun t_ kk => XS.goto X30.here hx rfl (pc0 := 223) (pc' := 227) rfl (hb hby at_223) (by decide) (by decide) kk) ?_
    refine own_st (F' := T30.setTop (mkF m 229 #[.val (.int p1), .val (.int p2), .val (.int p3), .val (.int p4), .val (.int p5), .val (.int (3 : Int32)), .val (.ref b19), .val (.int p3), .val (.int p3), .val (.int (1 : Int32)), .val (.int (2 : Int32))] [])) (fun t_ kk => XS.istore X30.here hx rfl (hb hby at_227) rfl (l' := #[.val (.int p1), .val (.int p2), .val (.int p3), .val (.int p4), .val (.int p5), .val (.int (3 : Int32)), .val (.ref b19), .val (.int p3), .val (.int p3), .val (.int (1 : Int32)), .val (.int (2 : Int32))]) rfl kk) ?_
    refine own_st (F' := T30.setTop (mkF m 231 #[.val (.int p1), .val (.int p2), .val (.int p3), .val (.int p4), .val (.int p5), .val (.int (3 : Int32)), .val (.ref b19), .val (.int p3), .val (.int p3), .val (.int (1 : Int32)), .val (.int (2 : Int32))] [(.int (1 : Int32))])) (fun t_ kk => XS.iload X30.here hx rfl (hb hby at_229) rfl kk) ?_
    refine own_fin X30 (some (.int (1 : Int32))) (fun h => by rw [Bd.returns] at h; cases h) Bd.notSynchronized (by decide) (by decide) (fun fs hr => retN X30 hx (t := .boolean) Bd.returns (by simp) (hb hby at_231) hr) ?_
    rw [e30]
    exact ⟨rfl, N30⟩
set_option maxRecDepth 65536 in
set_option maxHeartbeats 40000000 in
theorem comes_1 {Post : Tables → Env → Array Value → State → Outcome → State → Prop} (hpost : ∀ tb e args s v u, (limb_1_1.after args s (.returned v) u = true ∧ limb_1_2.after args s (.returned v) u = true ∧ True) → FrameEnd s (.returned v) u (Jvm.fieldLocs frame_1_writes args s ++ Jvm.arrayLocs frame_1_arrays args s ++ Jvm.staticLocs frame_1_statics s) 16 128 → Post tb e args s (.returned v) u) :
    ArmFor flags0 classFile x code maxLocals ret World_1 tables_1 room_1 Calls_1 rest_1 Pre_1 Post := by
  intro l hfl _ _ p e ha hc hk s m args below hf hA hF happ hP
  obtain ⟨hcalls, hrest, hpre⟩ := hP
  obtain ⟨-, -, -, hnamed, -, -, -, hat⟩ := (Spec.applies_iff hf).mp happ
  obtain ⟨hg, hn⟩ := and_e (Cond.before_iff.mp (show (Jvm.Cond.and given_1 narrow_1).before args s = true from hpre))
  obtain ⟨hcount, q0⟩ := and_e hg
  obtain ⟨k0, q1⟩ := and_e q0
  obtain ⟨k1, q2⟩ := and_e q1
  obtain ⟨k2, q3⟩ := and_e q2
  obtain ⟨k3, q4⟩ := and_e q3
  obtain ⟨w0, w1, w2, w3, w4, rfl⟩ : ∃ w0 w1 w2 w3 w4 : Value, args = #[w0, w1, w2, w3, w4] := by
    have hs : args.size = 5 := by simpa [Cond.value, given_1] using hcount
    obtain ⟨L⟩ := args
    match L, hs with
    | [w0, w1, w2, w3, w4], _ => exact ⟨w0, w1, w2, w3, w4, rfl⟩
  have hw := fun d (hd : d ∈ tables_1) => atoms_spec (ws := Jvm.Cond.code x code maxLocals ret :: tables_1) hat d (List.mem_cons_of_mem _ hd)
  obtain ⟨i0, ei0⟩ := is_v k0
  obtain rfl : w0 = (.int i0) := Option.some.inj ei0
  obtain ⟨i1, ei1⟩ := is_v k1
  obtain rfl : w1 = (.int i1) := Option.some.inj ei1
  obtain ⟨i2, ei2⟩ := is_v k2
  obtain rfl : w2 = (.int i2) := Option.some.inj ei2
  obtain ⟨i3, ei3⟩ := is_v k3
  obtain rfl : w3 = (.int i3) := Option.some.inj ei3
  obtain ⟨i4, ei4⟩ := is_v q4
  obtain rfl : w4 = (.int i4) := Option.some.inj ei4
  obtain ⟨n, o, h1, h2, h3, _, L, rfl, ⟨rfl, N⟩, hq⟩ := rm0 l s _ hw tables_1 i0 i1 i2 i3 i4 s.heap s.heap.size (Nat.le_refl _)  p e ha hc hk s m _ below hf ((Spec.applies_iff_loose hf).mp happ).1 ⟨rfl, State.Warmed39.refl s, rfl⟩ trivial
  refine ⟨n, _, h1, h2, h3, hpost _ _ _ _ _ _ ⟨Cond.after_iff.mpr rfl, Cond.after_iff.mpr (eq_i res_at (Term.int_eval (1)) rfl), trivial⟩ ⟨hq.1, hq.2.1, (hq.2.2.sift fun y hy => Or.inr (N y hy)).mono (by decide) (by decide)⟩⟩
theorem main_1_1 : Claimed_1_1 := comes_1 fun _ _ _ _ _ _ h hF => ⟨h.1, hF⟩
theorem main_1_2 : Claimed_1_2 := comes_1 fun _ _ _ _ _ _ h hF => ⟨h.2.1, hF⟩
end Jvm.Pilot.@@N@@
namespace Jvm.Pilot.@@N@@
open Jvm Jvm.ClassFile Sem Op Lib Jvm.Free Jvm.Stand Jvm.Pilot.@@N@@.Jvm.D
/-! MADE BY PROGRAM (witnessworld.py) out of the Statement's table words and the real class files: 9 classes; the members and pool entries that the words name. The judged class is class 1, her method 1. -/
namespace start1
open Jvm.ClassFile
def u (s : String) : CpInfo := .utf8 (stringToUtf16 s)
/-- a pool by its gaps: so many unusable entries, then the entry; so many at the end -/
def gap : Nat → List CpInfo → List CpInfo
  | 0, r => r
  | n + 1, r => .unusable :: gap n r
def poolList (es : List (Nat × CpInfo)) (last : Nat) : List CpInfo := es.foldr (fun e r => gap e.1 (e.2 :: r)) (gap last [])
def pool (es : List (Nat × CpInfo)) (last : Nat) : Array CpInfo := ⟨poolList es last⟩
def fileOf (pool : Array CpInfo) (this : Nat) (attrs : Array Attribute := #[]) (ms : Array MethodInfo := #[]) (fl : Nat := 33) (sup : Nat := 0) (ifs : Array Nat := #[]) (fds : Array FieldInfo := #[]) : ClassFile where
  minorVersion := 0
  majorVersion := 65
  constantPool := pool
  accessFlags := fl
  thisClass := this
  superClass := sup
  interfaces := ifs
  fields := fds
  methods := ms
  attributes := attrs
def plain (name : String) (sup : Option ClassId) : Class where
  name := name
  kind := .ordinary
  loader := none
  accessFlags := 33
  super := sup
  interfaces := #[]
  cf := none
  fields := #[]
  methods := #[]
  instanceTypes := #[]
  staticTypes := #[]
  resolved := #[]
  callSites := []
  init := .initialized
  statics := none
  mirror := none

def pool0 : Array CpInfo := pool [(5, u "<init>"), (0, u "()V"), (1, .class_ 10), (1, u "java/lang/Object")] 113

def k0c0 : Code := { maxStack := 0, maxLocals := 1, code := object_method_1_code, exceptionTable := #[], attributes := #[] }
def k0m0 : Method := { name := "<init>", desc := "()V", sig := { parameters := [], returnType := none }, accessFlags := 1, code := some k0c0 }
/-- java/lang/Object -/
def k0 : Class := { plain "java/lang/Object" none with
  accessFlags := 33
  interfaces := #[]
  cf := some (fileOf pool0 8 #[] #[{ accessFlags := 1, nameIndex := 5, descriptorIndex := 6, attributes := #[] }] 33 0 #[] #[])
  fields := #[]
  methods := #[k0m0]
  instanceTypes := #[]
  staticTypes := #[]
  resolved := Array.replicate 124 none
  statics := none }

def pool1 : Array CpInfo := pool [(2, .class_ 4), (0, .nameAndType 5 6), (0, u "java/lang/Object"), (0, u "<init>"), (0, u "()V"), (0, .integer 2147483647), (0, .class_ 9), (0, u "com/example/coarsen/coarsen/service/Ints"), (0, .methodref 8 3), (0, .methodref 8 12), (0, .nameAndType 13 14), (0, u "add"), (0, u "(I)I"), (0, .methodref 8 16), (0, .nameAndType 17 18), (0, u "removeLast"), (0, u "()I"), (0, .methodref 8 20), (0, .nameAndType 21 18), (0, u "size"), (0, .methodref 8 23), (0, .nameAndType 24 14), (0, u "get"), (0, .class_ 26), (0, u "com/example/coarsen/coarsen/service/IntsRemoveLastPinLaw"), (2, u "law"), (0, u "(IIIII)Z")] 3

def k1m0 : Method := { name := "<init>", desc := "()V", sig := { parameters := [], returnType := none }, accessFlags := 1, code := none }
def k1c1 : Code := { maxStack := 3, maxLocals := 11, code := code, exceptionTable := #[], attributes := #[] }
def k1m1 : Method := { name := "law", desc := "(IIIII)Z", sig := { parameters := [.int, .int, .int, .int, .int], returnType := some .boolean }, accessFlags := 9, code := some k1c1 }
/-- com/example/coarsen/coarsen/service/IntsRemoveLastPinLaw -/
def k1 : Class := { plain "com/example/coarsen/coarsen/service/IntsRemoveLastPinLaw" (some 0) with
  accessFlags := 49
  interfaces := #[]
  cf := some (fileOf pool1 25 #[] #[{ accessFlags := 1, nameIndex := 5, descriptorIndex := 6, attributes := #[] }, { accessFlags := 9, nameIndex := 29, descriptorIndex := 30, attributes := #[] }] 49 2 #[] #[])
  fields := #[]
  methods := #[k1m0, k1m1]
  instanceTypes := #[]
  staticTypes := #[]
  resolved := Array.replicate 34 none
  statics := none }

def pool2 : Array CpInfo := pool [(1, .methodref 2 3), (0, .class_ 4), (0, .nameAndType 5 6), (0, u "java/lang/Object"), (0, u "<init>"), (0, u "()V"), (0, .fieldref 8 9), (0, .class_ 10), (0, .nameAndType 11 12), (0, u "com/example/coarsen/coarsen/service/Ints"), (0, u "values"), (0, u "[I"), (0, .fieldref 8 14), (0, .nameAndType 15 16), (0, u "size"), (0, u "I"), (8, u "add"), (0, u "(I)I"), (1, u "get"), (2, u "()I"), (1, u "removeLast")] 3

def k2c0 : Code := { maxStack := 2, maxLocals := 1, code := prog_48_method_1_code, exceptionTable := #[], attributes := #[] }
def k2m0 : Method := { name := "<init>", desc := "()V", sig := { parameters := [], returnType := none }, accessFlags := 0, code := some k2c0 }
def k2c1 : Code := { maxStack := 4, maxLocals := 2, code := prog_48_method_2_code, exceptionTable := #[], attributes := #[] }
def k2m1 : Method := { name := "add", desc := "(I)I", sig := { parameters := [.int], returnType := some .int }, accessFlags := 0, code := some k2c1 }
def k2c2 : Code := { maxStack := 2, maxLocals := 2, code := prog_48_method_3_code, exceptionTable := #[], attributes := #[] }
def k2m2 : Method := { name := "get", desc := "(I)I", sig := { parameters := [.int], returnType := some .int }, accessFlags := 0, code := some k2c2 }
def k2c3 : Code := { maxStack := 1, maxLocals := 1, code := prog_48_method_5_code, exceptionTable := #[], attributes := #[] }
def k2m3 : Method := { name := "size", desc := "()I", sig := { parameters := [], returnType := some .int }, accessFlags := 0, code := some k2c3 }
def k2c4 : Code := { maxStack := 3, maxLocals := 1, code := prog_48_method_7_code, exceptionTable := #[], attributes := #[] }
def k2m4 : Method := { name := "removeLast", desc := "()I", sig := { parameters := [], returnType := some .int }, accessFlags := 0, code := some k2c4 }
/-- com/example/coarsen/coarsen/service/Ints -/
def k2 : Class := { plain "com/example/coarsen/coarsen/service/Ints" (some 0) with
  accessFlags := 48
  interfaces := #[]
  cf := some (fileOf pool2 8 #[] #[{ accessFlags := 0, nameIndex := 5, descriptorIndex := 6, attributes := #[] }, { accessFlags := 0, nameIndex := 25, descriptorIndex := 26, attributes := #[] }, { accessFlags := 0, nameIndex := 28, descriptorIndex := 26, attributes := #[] }, { accessFlags := 0, nameIndex := 15, descriptorIndex := 31, attributes := #[] }, { accessFlags := 0, nameIndex := 33, descriptorIndex := 31, attributes := #[] }] 48 2 #[] #[{ accessFlags := 2, nameIndex := 11, descriptorIndex := 12, attributes := #[] }, { accessFlags := 2, nameIndex := 15, descriptorIndex := 16, attributes := #[] }])
  fields := #[{ name := "values", type := (.array .int), accessFlags := 2, slot := 0, constantValue := 0 }, { name := "size", type := .int, accessFlags := 2, slot := 1, constantValue := 0 }]
  methods := #[k2m0, k2m1, k2m2, k2m3, k2m4]
  instanceTypes := #[(.array .int), .int]
  staticTypes := #[]
  resolved := Array.replicate 37 none
  statics := none }

def pool3 : Array CpInfo := pool [(1, u "java/lang/Cloneable"), (0, .class_ 1), (0, u "java/lang/Object"), (0, .class_ 3)] 3

/-- java/lang/Cloneable -/
def k3 : Class := { plain "java/lang/Cloneable" (some 0) with
  accessFlags := 1537
  interfaces := #[]
  cf := some (fileOf pool3 2 #[] #[] 1537 4 #[] #[])
  fields := #[]
  methods := #[]
  instanceTypes := #[]
  staticTypes := #[]
  resolved := Array.replicate 8 none
  statics := none }

def pool4 : Array CpInfo := pool [(1, u "java/io/Serializable"), (0, .class_ 1), (0, u "java/lang/Object"), (0, .class_ 3)] 3

/-- java/io/Serializable -/
def k4 : Class := { plain "java/io/Serializable" (some 0) with
  accessFlags := 1537
  interfaces := #[]
  cf := some (fileOf pool4 2 #[] #[] 1537 4 #[] #[])
  fields := #[]
  methods := #[]
  instanceTypes := #[]
  staticTypes := #[]
  resolved := Array.replicate 8 none
  statics := none }

/-- the primitive byte -/
def k5 : Class := { plain "byte" none with kind := .primitive 'B', accessFlags := 0x411 }
/-- [B -/
def k6 : Class := { plain "[B" (some 0) with kind := .array 5 .byte, interfaces := #[3, 4], accessFlags := 1041 }

/-- the primitive int -/
def k7 : Class := { plain "int" none with kind := .primitive 'I', accessFlags := 0x411 }
/-- [I -/
def k8 : Class := { plain "[I" (some 0) with kind := .array 7 .int, interfaces := #[3, 4], accessFlags := 1041 }

def heap : Heap := #[]
def classes : Array Class := #[k0, k1, k2, k3, k4, k5, k6, k7, k8]
def interned : List (Array UInt16 × Addr) := []
def slotsUsed : Nat := 0
def theMethod : MethodId := ⟨1, 1⟩
def args0 : Array Value := #[.int 5, .int 7, .int 9, .int 11, .int 2]
def aboutOver (below : List Frame) : State where
  vm := { classes := classes, interned := interned.toArray }
  heap := heap
  slotsUsed := slotsUsed
  threads := #[{ frames := .invoking theMethod args0 :: below }]
def below0 : List Frame := [.native { method := ⟨0, 0⟩, args := #[] }]
def about1 : State := aboutOver below0
def p0 : Program := .bare "" "" ""
def e0 : Env := launch0.env 0 0 0
theorem w_frames : about1.frames = Frame.invoking theMethod args0 :: below0 := rfl
set_option maxRecDepth 65536 in
theorem w_args : argsFit about1.vm theMethod args0 = true := by decide +kernel
set_option maxRecDepth 65536 in
theorem w_heap : heapFits about1 = true := by decide +kernel
set_option maxRecDepth 65536 in
theorem w_runnable : about1.curStatus? = some .runnable := by decide +kernel
set_option maxRecDepth 65536 in
theorem w_alone : about1.alone = true := by decide +kernel
set_option maxRecDepth 65536 in
theorem w_named : about1.methodNamed? x = some theMethod := by decide +kernel
set_option maxRecDepth 65536 in
theorem w_hears : about1.hears theMethod below0 = true := by decide +kernel
set_option maxRecDepth 65536 in
theorem w_ripe : about1.ripe theMethod args0 below0 = true := by decide +kernel
theorem w_running : about1.status = .running := rfl
set_option maxRecDepth 65536 in
theorem w_room : about1.hasRoom e0.platform room_1 = true :=
  launch0.hasRoom_least _ room_1 (by decide +kernel) (by decide +kernel) (by decide +kernel) (by decide +kernel) (by decide +kernel) (by decide +kernel)
theorem allAtoms_all (ts : List Jvm.Cond) (a : Array Jvm.Value) (st : Jvm.State) : (allAtoms ts).before a st = ts.all (fun c => c.before a st) := by
  induction ts with
  | nil => rfl
  | cons c t ih =>
    show (Jvm.Cond.and c (allAtoms t)).before a st = _
    rw [Jvm.Cond.before_and, ih, List.all_cons]
def words1 : List Jvm.Cond := Jvm.Cond.code x code maxLocals ret :: tables_1
/-- a 'code' word, met by the world's own term for the bytes: nothing is compared byte by byte -/
theorem code_word {y : MethodName} {bytes : ByteArray} {mx : Nat} {rt : Option FieldType} {a : Array Value} {s : State} {m : MethodId} {meth : Method} {c : Code} (h1 : s.methodNamed? y = some m) (h2 : s.vm.method? m = some meth) (h3 : meth.code = some c) (h4 : c.code = bytes)
    (h5 : (c.maxLocals == mx && c.exceptionTable.isEmpty && decide (c.maxStack ≤ mostOperands) && decide (meth.sig.returnType = rt) && !meth.locks && decide (parseMethodDescriptor y.desc = some meth.sig)) = true) : (Jvm.Cond.code y bytes mx rt).before a s = true := by
  simp only [Bool.and_eq_true, beq_iff_eq, Bool.not_eq_true', decide_eq_true_eq] at h5
  obtain ⟨⟨⟨⟨⟨g1, g2⟩, g3⟩, g4⟩, g5⟩, g6⟩ := h5
  simp [Cond.before, Cond.holds, Cond.value, h1, h2, h3, h4, g1, g2, g3, g4, g5, g6]
def isCode : Jvm.Cond → Bool
  | .code _ _ _ _ => true
  | _ => false
theorem all_split {L : List Jvm.Cond} {P : Jvm.Cond → Bool} (h1 : L.all (fun c => isCode c || P c) = true) (h2 : ∀ c ∈ L.filter isCode, P c = true) : L.all P = true := by
  refine List.all_eq_true.mpr fun c hc => ?_
  have h := List.all_eq_true.mp h1 c hc
  rcases Bool.eq_false_or_eq_true (isCode c) with hi | hi
  · exact h2 c (List.mem_filter.mpr ⟨hc, hi⟩)
  · simpa [hi] using h
set_option maxRecDepth 65536 in
theorem w_c0 : (Jvm.Cond.code x code maxLocals ret).before args0 about1 = true := code_word (m := ⟨1, 1⟩) (meth := k1m1) (c := k1c1) (by decide +kernel) rfl rfl rfl (by decide +kernel)
set_option maxRecDepth 65536 in
theorem w_c1 : (Jvm.Cond.code ({ cls := "com/example/coarsen/coarsen/service/Ints", name := "<init>", desc := "()V" } : Jvm.MethodName) prog_48_method_1_code (1 : Nat) (Option.none : Option Jvm.ClassFile.FieldType)).before args0 about1 = true := code_word (m := ⟨2, 0⟩) (meth := k2m0) (c := k2c0) (by decide +kernel) rfl rfl rfl (by decide +kernel)
set_option maxRecDepth 65536 in
theorem w_c2 : (Jvm.Cond.code ({ cls := "java/lang/Object", name := "<init>", desc := "()V" } : Jvm.MethodName) object_method_1_code (1 : Nat) (Option.none : Option Jvm.ClassFile.FieldType)).before args0 about1 = true := code_word (m := ⟨0, 0⟩) (meth := k0m0) (c := k0c0) (by decide +kernel) rfl rfl rfl (by decide +kernel)
set_option maxRecDepth 65536 in
theorem w_c3 : (Jvm.Cond.code ({ cls := "com/example/coarsen/coarsen/service/Ints", name := "add", desc := "(I)I" } : Jvm.MethodName) prog_48_method_2_code (2 : Nat) (Option.some Jvm.ClassFile.FieldType.int)).before args0 about1 = true := code_word (m := ⟨2, 1⟩) (meth := k2m1) (c := k2c1) (by decide +kernel) rfl rfl rfl (by decide +kernel)
set_option maxRecDepth 65536 in
theorem w_c4 : (Jvm.Cond.code ({ cls := "com/example/coarsen/coarsen/service/Ints", name := "removeLast", desc := "()I" } : Jvm.MethodName) prog_48_method_7_code (1 : Nat) (Option.some Jvm.ClassFile.FieldType.int)).before args0 about1 = true := code_word (m := ⟨2, 4⟩) (meth := k2m4) (c := k2c4) (by decide +kernel) rfl rfl rfl (by decide +kernel)
set_option maxRecDepth 65536 in
theorem w_c5 : (Jvm.Cond.code ({ cls := "com/example/coarsen/coarsen/service/Ints", name := "size", desc := "()I" } : Jvm.MethodName) prog_48_method_5_code (1 : Nat) (Option.some Jvm.ClassFile.FieldType.int)).before args0 about1 = true := code_word (m := ⟨2, 3⟩) (meth := k2m3) (c := k2c3) (by decide +kernel) rfl rfl rfl (by decide +kernel)
set_option maxRecDepth 65536 in
theorem w_c6 : (Jvm.Cond.code ({ cls := "com/example/coarsen/coarsen/service/Ints", name := "get", desc := "(I)I" } : Jvm.MethodName) prog_48_method_3_code (2 : Nat) (Option.some Jvm.ClassFile.FieldType.int)).before args0 about1 = true := code_word (m := ⟨2, 2⟩) (meth := k2m2) (c := k2c2) (by decide +kernel) rfl rfl rfl (by decide +kernel)
def codes1 : List Jvm.Cond := [Jvm.Cond.code x code maxLocals ret, Jvm.Cond.code ({ cls := "com/example/coarsen/coarsen/service/Ints", name := "<init>", desc := "()V" } : Jvm.MethodName) prog_48_method_1_code (1 : Nat) (Option.none : Option Jvm.ClassFile.FieldType), Jvm.Cond.code ({ cls := "java/lang/Object", name := "<init>", desc := "()V" } : Jvm.MethodName) object_method_1_code (1 : Nat) (Option.none : Option Jvm.ClassFile.FieldType), Jvm.Cond.code ({ cls := "com/example/coarsen/coarsen/service/Ints", name := "add", desc := "(I)I" } : Jvm.MethodName) prog_48_method_2_code (2 : Nat) (Option.some Jvm.ClassFile.FieldType.int), Jvm.Cond.code ({ cls := "com/example/coarsen/coarsen/service/Ints", name := "removeLast", desc := "()I" } : Jvm.MethodName) prog_48_method_7_code (1 : Nat) (Option.some Jvm.ClassFile.FieldType.int), Jvm.Cond.code ({ cls := "com/example/coarsen/coarsen/service/Ints", name := "size", desc := "()I" } : Jvm.MethodName) prog_48_method_5_code (1 : Nat) (Option.some Jvm.ClassFile.FieldType.int), Jvm.Cond.code ({ cls := "com/example/coarsen/coarsen/service/Ints", name := "get", desc := "(I)I" } : Jvm.MethodName) prog_48_method_3_code (2 : Nat) (Option.some Jvm.ClassFile.FieldType.int)]
set_option maxRecDepth 65536 in
theorem codes_eq : words1.filter isCode = codes1 := rfl
theorem w_codes : ∀ c ∈ words1.filter isCode, c.before args0 about1 = true := by
  rw [codes_eq]
  intro c hc
  simp only [codes1, List.mem_cons, List.not_mem_nil, or_false] at hc
  rcases hc with rfl | rfl | rfl | rfl | rfl | rfl | rfl
  · exact w_c0
  · exact w_c1
  · exact w_c2
  · exact w_c3
  · exact w_c4
  · exact w_c5
  · exact w_c6
set_option maxRecDepth 65536 in
theorem w_t1 : (words1.take 24).all (fun c => isCode c || c.before args0 about1) = true := by decide +kernel
set_option maxRecDepth 65536 in
theorem w_t2 : (words1.drop 24).all (fun c => isCode c || c.before args0 about1) = true := by decide +kernel
theorem w_tables : (allAtoms (Jvm.Cond.code x code maxLocals ret :: tables_1)).before args0 about1 = true := by
  rw [allAtoms_all]
  show words1.all (fun c => c.before args0 about1) = true
  refine all_split ?_ w_codes
  rw [← List.take_append_drop 24 words1, List.all_append, w_t1, w_t2]
  rfl
set_option maxRecDepth 65536 in
theorem w_case : (Jvm.Cond.and given_1 narrow_1).before args0 about1 = true := by decide +kernel
theorem w_applies : (headSpec (Jvm.Cond.code x code maxLocals ret :: tables_1) room_1).applies x e0.platform about1 = true :=
  (Spec.applies_iff w_frames).mpr ⟨w_running, w_runnable, w_alone, w_named, w_hears, w_ripe, w_room, w_tables⟩
theorem atStart : AtStart classFile x code maxLocals ret World_1 tables_1 room_1 Calls_1 rest_1 Pre_1 launch0 p0 e0 about1 theMethod args0 below0 :=
  ⟨lists_1, trivial, launch0.admits_env _ _ _, launch0.least_env, fairChoices_fair.cas, fairChoices_fair.clock, w_frames, w_args, w_heap, w_applies, trivial, trivial, w_case⟩
end start1
theorem witness_1 : WitnessClaimed_1 := ⟨start1.p0, start1.e0, start1.about1, start1.theMethod, start1.args0, start1.below0, start1.atStart⟩
end Jvm.Pilot.@@N@@
