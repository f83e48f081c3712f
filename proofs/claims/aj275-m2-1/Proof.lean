import JvmDerived
import JvmDerived.Pilot.@@N@@Statement
import JvmDerived.Pilot.@@N@@Code
set_option linter.unusedVariables false
set_option linter.unusedSimpArgs false
namespace Jvm.Pilot.@@N@@
open Jvm Jvm.ClassFile Sem Op Lib Jvm.Free Jvm.Stand Jvm.LawKit Jvm.RoadKit Bundle Jvm.Pilot.@@N@@.Jvm.D

section OwnKit
variable {p : Program} {l : Launch} {e : Env} {R : Room} {s : State} {m : MethodId} {args : Array Value} {below : List Frame} {meth : Method} {c : Code} {T : State} {locs : List Loc} {cells slots : Nat} {Z : State} {a0 : Array Value} {h : Heap} {kc ks : Nat} {Q : Option Value → Heap → List Loc → Prop}
/-- the run from F comes to the method's end, where Q holds -/
def OWp (p : Program) (e : Env) (below : List Frame) (s : State) (kc ks : Nat) (Q : Option Value → Heap → List Loc → Prop) (F : State) : Prop :=
  ∃ s₂ o, Steps p.tables e below F s₂ ∧ s₂.status = .running ∧ Ended s₂ below o ∧ ∃ v L, o = .returned v ∧ Q v s₂.heap L ∧ FrameEnd s o s₂ L kc ks
theorem own_st {F F' : State} (h : ∀ t, Steps p.tables e below F' t → Steps p.tables e below F t) (w : OWp p e below s kc ks Q F') : OWp p e below s kc ks Q F := by
  obtain ⟨s₂, o, h1, r⟩ := w
  exact ⟨s₂, o, h _ h1, r⟩
theorem own_fin (X : Stand p l e R s m args below meth c T locs cells slots) {F : State} (v : Option Value) (hv : meth.sig.returnType = none → v = none) (hlocks : meth.locks = false) (hk : cells ≤ kc) (hn : slots ≤ ks)
    (hst : ∀ fs, (∀ (f : JFrame) (acts : List Action), f.method = m → f.locked = none → f.entered = [] → (doReturn e (T.setTop f) acts v).1 = T.setFrames fs) → Steps p.tables e below F (T.setFrames fs))
    (hq : Q v T.heap locs) : OWp p e below s kc ks Q F := by
  obtain ⟨fs, hr, hrun, hended, hW, hsame⟩ := X.leave (v := v) hv hlocks
  exact ⟨_, _, hst fs hr, hrun, hended, v, locs, rfl, hq, ⟨_, rfl⟩, hW, hsame.mono hk hn⟩
theorem own_irem_mod (x y : Int32) : x - (x / y) * y = x % y := by
  apply Int32.toInt_inj.mp
  rw [Int32.toInt_sub, Int32.toInt_mul, Int32.toInt_div, Int32.toInt_mod, Int.bmod_mul_bmod, Int.sub_bmod_bmod, Int.mul_comm, ← Int.tmod_def]
  have a := (x % y).toInt_lt; have b := (x % y).le_toInt
  rw [Int32.toInt_mod] at a b
  exact Int.bmod_eq_of_le (by omega) (by omega)
theorem own_irem {tb : Tables} [Ours tb] {e : Env} {below : List Frame} {T target : State} {m : MethodId} {c : Code} {g : JFrame} (h : At T m c below) (hx : tb.exec = Jvm.exec) (hg : g.method = m) {x y : Int32} {rest : List Value} (hd : decode c.code g.pc = .ok (.irem, 1)) (hs : g.stack = .int y :: .int x :: rest) (hy : y ≠ 0)
    (hr : Steps tb e below (T.setTop { g with pc := g.pc + 1, stack := .int (x % y) :: rest }) target) : Steps tb e below (T.setTop g) target :=
  XS.irem h hx hg hd hs hy (by rw [own_irem_mod]; exact hr)
theorem own_callS (X : Stand p l e R s m args below meth c T locs cells slots) (hx : p.tables.exec = Jvm.exec) (hZ : Z.Warmed39 s.vm) {own : String} {index : Nat} {y : MethodName} {bytes : ByteArray} {maxL : Nat} {ret : Option FieldType} {rm : Room} {Qc : Option Value → Heap → List Loc → Prop} {as' : Array Value}
    (hown : s.vm.findClass own = some m.cls) (wl : (Jvm.Cond.methodLink own index y).before a0 Z = true) (wst : (Jvm.Cond.static y).before a0 Z = true) (wz : (Jvm.Cond.initialized y.cls).before a0 Z = true) (wc : (Jvm.Cond.code y bytes maxL ret).before a0 Z = true)
    (hM : MetFree l y (head1 [Jvm.Cond.code y bytes maxL ret] rm) (fun a U => a = as' ∧ Z.Warmed39 U.vm ∧ U.heap = h) (fun _ _ _ _ _ => True) (fun _ U o U' => ∃ v L, o = .returned v ∧ Qc v U'.heap L ∧ FrameEnd U o U' L rm.cells rm.slots))
    (hy : y.cls ≠ "java/lang/invoke/MethodHandle" ∧ y.cls ≠ "java/lang/invoke/VarHandle") {W pc : Nat} {Ls : Array Slot} {stk argsL rest : List Value} (hf : rm.frames + 1 ≤ R.frames) (hl : W + (maxL + 11) + rm.locals ≤ R.locals)
    (hsize : Ls.size = c.maxLocals) (hlen : ∀ sig, parseMethodDescriptor y.desc = some sig → argsL.length = sig.parameters.length) (hstk : stk = argsL.reverse ++ rest) (has : argsL.toArray = as') (hW : 2 * 0 + (rest.map fun v => v.category).sum ≤ W)
    (hdg : decode c.code pc = .ok (.invokestatic index, 3)) (eT : T.heap = h) (hc : cells + rm.cells ≤ R.cells) (hs : slots + rm.slots ≤ R.slots)
    (k : ∀ v T' L, Qc v T'.heap L → Stand p l e R s m args below meth c T' (locs ++ L) (cells + rm.cells) (slots + rm.slots) → OWp p e below s kc ks Q (T'.setTop (mkF m (pc + 3) Ls (v.toList ++ rest)))) :
    OWp p e below s kc ks Q (T.setTop (mkF m pc Ls stk)) := by
  obtain ⟨v, _, ⟨T', L', k', n'⟩, -, X', ⟨Lc, hQ, l1, y1, z1⟩, st⟩ := Jvm.LawKit.callS X hx (y := y) hown (mvT hZ wl) (mvT hZ wst) (mvT hZ wz) (mvT hZ wc) hy (backOf (W := W) hM hZ wc wz hf hl) (g := mkF m pc Ls stk) rfl hsize (argsL := argsL) (rest := rest) hlen hstk hW hdg (fun _ _ => ⟨has, eT, hc, hs⟩)
  dsimp only [Pt.U, Pt.locs, Pt.cells, Pt.slots] at X' l1 y1 z1 st hQ
  subst l1 y1 z1
  exact own_st st (k v T' Lc hQ X')
theorem own_init (X : Stand p l e R s m args below meth c T locs cells slots) (hx : p.tables.exec = Jvm.exec) (hZ : Z.Warmed39 s.vm) {own : String} {index : Nat} {y : MethodName} {bytes : ByteArray} {maxL : Nat} {rm : Room} {Qc : Option Value → Heap → List Loc → Prop} {as' : Array Value}
    (hown : s.vm.findClass own = some m.cls) (hy1 : y.name = "<init>") (wl : (Jvm.Cond.methodLink own index y).before a0 Z = true) (wi : (Jvm.Cond.instanceMethod y).before a0 Z = true) (wz : (Jvm.Cond.initialized y.cls).before a0 Z = true) (wc : (Jvm.Cond.code y bytes maxL none).before a0 Z = true)
    (hM : MetFree l y (head1 [Jvm.Cond.code y bytes maxL none] rm) (fun a U => a = as' ∧ Z.Warmed39 U.vm ∧ U.heap = h) (fun _ _ _ _ _ => True) (fun _ U o U' => ∃ v L, o = .returned v ∧ Qc v U'.heap L ∧ FrameEnd U o U' L rm.cells rm.slots))
    (hy : y.cls ≠ "java/lang/invoke/MethodHandle" ∧ y.cls ≠ "java/lang/invoke/VarHandle") {W pc : Nat} {Ls : Array Slot} {stk argsL rest : List Value} {a : Addr} (hf : rm.frames + 1 ≤ R.frames) (hl : W + (maxL + 11) + rm.locals ≤ R.locals)
    (hsize : Ls.size = c.maxLocals) (hlen : ∀ sig, parseMethodDescriptor y.desc = some sig → argsL.length = sig.parameters.length) (hstk : stk = argsL.reverse ++ .ref a :: rest) (has : (.ref a :: argsL).toArray = as') (hW : 2 * 0 + (rest.map fun v => v.category).sum ≤ W)
    (hdg : decode c.code pc = .ok (.invokespecial index, 3)) (eT : T.heap = h) (hc : cells + rm.cells ≤ R.cells) (hs : slots + rm.slots ≤ R.slots)
    (k : ∀ v T' L, Qc v T'.heap L → Stand p l e R s m args below meth c T' (locs ++ L) (cells + rm.cells) (slots + rm.slots) → OWp p e below s kc ks Q (T'.setTop (mkF m (pc + 3) Ls (v.toList ++ rest)))) :
    OWp p e below s kc ks Q (T.setTop (mkF m pc Ls stk)) := by
  obtain ⟨v, _, ⟨T', L', k', n'⟩, -, X', ⟨Lc, hQ, l1, y1, z1⟩, st⟩ := X.specialBack hx (y := y) hy1 hown (mvT hZ wl) (mvT hZ wi) (mvT hZ wc) hy (backOf (W := W) hM hZ wc wz hf hl) (g := mkF m pc Ls stk) rfl hsize (Steps.refl _) (a := a) (argsL := argsL) (rest := rest) hlen hstk hW hdg (fun _ _ => ⟨has, eT, hc, hs⟩)
  dsimp only [Pt.U, Pt.locs, Pt.cells, Pt.slots] at X' l1 y1 z1 st hQ
  subst l1 y1 z1
  exact own_st (fun t q => st.trans q) (k v T' Lc hQ X')
theorem own_virt (X : Stand p l e R s m args below meth c T locs cells slots) (hx : p.tables.exec = Jvm.exec) (hZ : Z.Warmed39 s.vm) {own C : String} {index : Nat} {y : MethodName} {bytes : ByteArray} {maxL : Nat} {ret : Option FieldType} {rm : Room} {Qc : Option Value → Heap → List Loc → Prop} {as' : Array Value} {a : Addr}
    (hown : s.vm.findClass own = some m.cls) (wl : (Jvm.Cond.methodLink own index y).before a0 Z = true) (wd : (Jvm.Cond.declares y).before a0 Z = true) (wsel : (Jvm.Cond.selects C y y).before a0 Z = true) (wi : (Jvm.Cond.instanceMethod y).before a0 Z = true) (wz : (Jvm.Cond.initialized y.cls).before a0 Z = true) (wc : (Jvm.Cond.code y bytes maxL ret).before a0 Z = true)
    (E : Exa Z h a C)
    (hM : MetFree l y (head1 [Jvm.Cond.code y bytes maxL ret] rm) (fun a U => a = as' ∧ Z.Warmed39 U.vm ∧ U.heap = h) (fun _ _ _ _ _ => True) (fun _ U o U' => ∃ v L, o = .returned v ∧ Qc v U'.heap L ∧ FrameEnd U o U' L rm.cells rm.slots))
    (hy : y.cls ≠ "java/lang/invoke/MethodHandle" ∧ y.cls ≠ "java/lang/invoke/VarHandle") {W pc : Nat} {Ls : Array Slot} {stk argsL rest : List Value} (hf : rm.frames + 1 ≤ R.frames) (hl : W + (maxL + 11) + rm.locals ≤ R.locals)
    (hsize : Ls.size = c.maxLocals) (hlen : ∀ sig, parseMethodDescriptor y.desc = some sig → argsL.length = sig.parameters.length) (hstk : stk = argsL.reverse ++ .ref a :: rest) (has : (.ref a :: argsL).toArray = as') (hW : 2 * 0 + (rest.map fun v => v.category).sum ≤ W)
    (hdg : decode c.code pc = .ok (.invokevirtual index, 3)) (eT : T.heap = h) (hc : cells + rm.cells ≤ R.cells) (hs : slots + rm.slots ≤ R.slots)
    (k : ∀ v T' L, Qc v T'.heap L → Stand p l e R s m args below meth c T' (locs ++ L) (cells + rm.cells) (slots + rm.slots) → OWp p e below s kc ks Q (T'.setTop (mkF m (pc + 3) Ls (v.toList ++ rest)))) :
    OWp p e below s kc ks Q (T.setTop (mkF m pc Ls stk)) := by
  obtain ⟨cq, kq, qa, qb, qc⟩ := isOf hZ eT E
  obtain ⟨v, _, ⟨T', L', k', n'⟩, -, X', ⟨Lc, hQ, l1, y1, z1⟩, st⟩ := X.virtualBack hx (y := y) (z := y) hown (mvT hZ wl) (mvT hZ wd) (notFace_of_selects (args := #[]) (mvT hZ wsel)) (mvT hZ wsel) (mvT hZ wi) hy (backOf (W := W) hM hZ wc wz hf hl) qa qc (g := mkF m pc Ls stk) rfl hsize (Steps.refl _) (argsL := argsL) (rest := rest) hlen hstk hW hdg (fun _ _ => ⟨has, eT, hc, hs⟩)
  dsimp only [Pt.U, Pt.locs, Pt.cells, Pt.slots] at X' l1 y1 z1 st hQ
  subst l1 y1 z1
  exact own_st (fun t q => st.trans q) (k v T' Lc hQ X')
theorem own_len (X : Stand p l e R s m args below meth c T locs cells slots) (hx : p.tables.exec = Jvm.exec) (hZ : Z.Warmed39 s.vm) (eT : T.heap = h) {a : Addr} {k : ClassId} {ty : FieldType} {n : Int32} {vs : List Value} {dv : Value} (A : Arv Z h a k ty n vs dv)
    {pc : Nat} {Ls : Array Slot} {rest : List Value} (hd : decode c.code pc = .ok (.arraylength, 1)) :
    ∀ t, Steps p.tables e below (T.setTop (mkF m (pc + 1) Ls (.int n :: rest))) t → Steps p.tables e below (T.setTop (mkF m pc Ls (.ref a :: rest))) t := fun t q => by
  obtain ⟨cl, Ar, -, hS, hN, -, -⟩ := A
  refine X.arraylength hx (by rw [eT]; exact Ar.1) (State.isArrayOf_alike hZ.alike Ar.2.1) (g := mkF m pc Ls (.ref a :: rest)) rfl rfl hd _ ?_
  rw [len_of hS hN]; exact q
theorem own_ild (X : Stand p l e R s m args below meth c T locs cells slots) (hx : p.tables.exec = Jvm.exec) (hZ : Z.Warmed39 s.vm) (eT : T.heap = h) {a : Addr} {k : ClassId} {n : Int32} {vs : List Value} {dv : Value} (A : Arv Z h a k .int n vs dv)
    {pc : Nat} {Ls : Array Slot} {rest : List Value} {j w : Int32} (h0 : ¬ j < 0) (hlt : j < n) (hv : vs.getD j.toNatClampNeg dv = .int w) (hd : decode c.code pc = .ok (.iaload, 1)) :
    ∀ t, Steps p.tables e below (T.setTop (mkF m (pc + 1) Ls (.int w :: rest))) t → Steps p.tables e below (T.setTop (mkF m pc Ls (.int j :: .ref a :: rest))) t := fun t q => by
  obtain ⟨cl, Ar, -, hS, hN, H, -⟩ := A
  have hin := inb_of hS ⟨h0, hlt⟩
  exact X.iaload hx (j := j) (v := .int w) (by rw [eT]; exact Ar.1) (State.isArrayOf_alike hZ.alike Ar.2.1) Ar.2.2 hin (by rw [H _ (Nat.lt_of_not_le fun q => hin (Or.inr q)), hv]) (g := mkF m pc Ls (.int j :: .ref a :: rest)) rfl rfl hd _ q
theorem own_elt {a : Addr} {k : ClassId} {n : Int32} {vs : List Value} {dv : Value} (A : Arv Z h a k .int n vs dv) {j : Int32} (h0 : ¬ j < 0) (hlt : j < n) : ∃ w : Int32, vs.getD j.toNatClampNeg dv = .int w := by
  obtain ⟨cl, Ar, -, hS, hN, H, G⟩ := A
  have hin := inb_of hS ⟨h0, hlt⟩
  have g := G _ (Nat.lt_of_not_le fun q => hin (Or.inr q))
  cases hv : vs.getD j.toNatClampNeg dv <;> rw [hv] at g <;> first | exact ⟨_, rfl⟩ | cases g
theorem own_ist (X : Stand p l e R s m args below meth c T locs cells slots) (hx : p.tables.exec = Jvm.exec) (hZ : Z.Warmed39 s.vm) (eT : T.heap = h) {a : Addr} {k : ClassId} {n : Int32} {vs : List Value} {dv : Value} (A : Arv Z h a k .int n vs dv)
    {pc : Nat} {Ls : Array Slot} {rest : List Value} {j x : Int32} (i : Nat) (hj : j.toNatClampNeg = i) (h0 : ¬ j < 0) (hlt : j < n) (hi : i < vs.length) (hd : decode c.code pc = .ok (.iastore, 1)) :
    ∃ T' h', Stand p l e R s m args below meth c T' (locs ++ [⟨a, j.toNatClampNeg⟩]) cells slots ∧ T'.heap = h' ∧ Wr h h' a j.toNatClampNeg (.int x) ∧ Arv Z h' a k .int n (vs.set i (.int x)) dv ∧
      ∀ t, Steps p.tables e below (T'.setTop (mkF m (pc + 1) Ls rest)) t → Steps p.tables e below (T.setTop (mkF m pc Ls (.int x :: .int j :: .ref a :: rest))) t := by
  obtain ⟨cl, Ar, q1, hS, hN, H, G⟩ := A
  obtain ⟨T', h', X', e', W', st⟩ := stI X hx hZ eT Ar (j := j) (x := x) (inb_of hS ⟨h0, hlt⟩) (g := mkF m pc Ls (.int x :: .int j :: .ref a :: rest)) rfl rfl hd
  exact ⟨T', h', X', e', W', Arv.set Ar q1 hS hN H G rfl W' i hj hi, st⟩
theorem own_ald (X : Stand p l e R s m args below meth c T locs cells slots) (hx : p.tables.exec = Jvm.exec) (hZ : Z.Warmed39 s.vm) (eT : T.heap = h) {a : Addr} {k : ClassId} {C : String} {n : Int32} {vs : List Value} {dv : Value} (A : Arv Z h a k (.object C) n vs dv)
    {pc : Nat} {Ls : Array Slot} {rest : List Value} {j : Int32} {w : Addr} (h0 : ¬ j < 0) (hlt : j < n) (hv : vs.getD j.toNatClampNeg dv = .ref w) (hd : decode c.code pc = .ok (.aaload, 1)) :
    ∀ t, Steps p.tables e below (T.setTop (mkF m (pc + 1) Ls (.ref w :: rest))) t → Steps p.tables e below (T.setTop (mkF m pc Ls (.int j :: .ref a :: rest))) t := fun t q => by
  obtain ⟨cl, Ar, -, hS, hN, H, -⟩ := A
  have hin := inb_of hS ⟨h0, hlt⟩
  exact X.aaload hx (j := j) (v := .ref w) (by rw [eT]; exact Ar.1) (State.isArrayOf_alike hZ.alike Ar.2.1) rfl Ar.2.2 hin (by rw [H _ (Nat.lt_of_not_le fun q => hin (Or.inr q)), hv]) (g := mkF m pc Ls (.int j :: .ref a :: rest)) rfl rfl hd _ q
theorem own_ast (X : Stand p l e R s m args below meth c T locs cells slots) (hx : p.tables.exec = Jvm.exec) (hZ : Z.Warmed39 s.vm) (eT : T.heap = h) {a : Addr} {k : ClassId} {C : String} {n : Int32} {vs : List Value} {dv : Value} (A : Arv Z h a k (.object C) n vs dv) (O : Ovr Z k C) {y : Addr} (I : Ins Z h y C true)
    {pc : Nat} {Ls : Array Slot} {rest : List Value} {j : Int32} (i : Nat) (hj : j.toNatClampNeg = i) (h0 : ¬ j < 0) (hlt : j < n) (hi : i < vs.length) (hd : decode c.code pc = .ok (.aastore, 1)) :
    ∃ T' h', Stand p l e R s m args below meth c T' (locs ++ [⟨a, j.toNatClampNeg⟩]) cells slots ∧ T'.heap = h' ∧ Wr h h' a j.toNatClampNeg (.ref y) ∧ Arv Z h' a k (.object C) n (vs.set i (.ref y)) dv ∧
      ∀ t, Steps p.tables e below (T'.setTop (mkF m (pc + 1) Ls rest)) t → Steps p.tables e below (T.setTop (mkF m pc Ls (.ref y :: .int j :: .ref a :: rest))) t := by
  obtain ⟨cl, Ar, q1, hS, hN, H, G⟩ := A
  obtain ⟨T', h', X', e', W', st⟩ := stR X hx hZ eT Ar (j := j) (v := .ref y) (inb_of hS ⟨h0, hlt⟩) rfl (Sto.of Ar (q1 ▸ O) I) (g := mkF m pc Ls (.ref y :: .int j :: .ref a :: rest)) rfl rfl hd
  exact ⟨T', h', X', e', W', Arv.set Ar q1 hS hN H G rfl W' i hj hi, st⟩
theorem own_kext {h h' : Heap} (K : Keep h h' []) : Ext h h' := ⟨K.1, fun a c q => K.2.1 a c q (by simp)⟩
end OwnKit

def oL (b : Int32) : Int32 := if ¬ b < 240 then 4 else if ¬ b < 224 then 3 else if ¬ b < 192 then 2 else 1
def oLen (p : Int32) : Int32 := oL (p &&& (255 : Int32))
theorem own_tab : ∀ k : Fin 256, oL (Int32.ofNat k.1) = if Int32.ofNat k.1 &&& (128 : Int32) = 0 then 1 else if Int32.ofNat k.1 &&& (64 : Int32) = 0 then 1 else if Int32.ofNat k.1 &&& (32 : Int32) = 0 then 2 else if Int32.ofNat k.1 &&& (16 : Int32) = 0 then 3 else 4 := by decide +kernel
theorem own_byte (x : Int32) : x.toInt8.toInt32 &&& (255 : Int32) = x &&& (255 : Int32) := by
  apply Int32.toInt_inj.mp
  have h1 := c_mask x 255 8 (by decide) (by decide)
  have h2 := c_mask x.toInt8.toInt32 255 8 (by decide) (by decide)
  have h3 := c_i2b x
  omega
theorem own_small (x : Int32) : ∃ k : Fin 256, x &&& (255 : Int32) = Int32.ofNat k.1 := by
  have h1 := c_mask x 255 8 (by decide) (by decide)
  refine ⟨⟨(x &&& (255 : Int32)).toInt.toNat, by omega⟩, ?_⟩
  apply Int32.toInt_inj.mp
  rw [Int32.toInt_ofNat']
  show _ = Int.bmod _ 4294967296
  rw [Int.bmod_eq_of_le (by omega) (by omega)]
  show _ = (((x &&& (255 : Int32)).toInt.toNat : Nat) : Int)
  omega
theorem own_alt (x : Int32) : oLen x.toInt8.toInt32 = if (x &&& (255 : Int32)) &&& (128 : Int32) = 0 then 1 else if (x &&& (255 : Int32)) &&& (64 : Int32) = 0 then 1 else if (x &&& (255 : Int32)) &&& (32 : Int32) = 0 then 2 else if (x &&& (255 : Int32)) &&& (16 : Int32) = 0 then 3 else 4 := by
  unfold oLen
  rw [own_byte]
  obtain ⟨k, e⟩ := own_small x
  rw [e]
  exact own_tab k

theorem own_pd0 : parseMethodDescriptor "(B)I" = some ⟨[.byte], some .int⟩ := by decide +kernel
theorem d1_0 : decode prog_19_method_2_code 0 = .ok (.iload_n 0, 1) := by decide +kernel
theorem d1_1 : decode prog_19_method_2_code 1 = .ok (.sipush 255, 3) := by decide +kernel
theorem d1_4 : decode prog_19_method_2_code 4 = .ok (.iand, 1) := by decide +kernel
theorem d1_5 : decode prog_19_method_2_code 5 = .ok (.istore_n 1, 1) := by decide +kernel
theorem d1_6 : decode prog_19_method_2_code 6 = .ok (.iload_n 1, 1) := by decide +kernel
theorem d1_7 : decode prog_19_method_2_code 7 = .ok (.sipush 240, 3) := by decide +kernel
theorem d1_10 : decode prog_19_method_2_code 10 = .ok (.if_icmp .lt 8, 3) := by decide +kernel
theorem d1_13 : decode prog_19_method_2_code 13 = .ok (.iconst 4, 1) := by decide +kernel
theorem d1_14 : decode prog_19_method_2_code 14 = .ok (.istore_n 2, 1) := by decide +kernel
theorem d1_15 : decode prog_19_method_2_code 15 = .ok (.goto 29, 3) := by decide +kernel
theorem d1_18 : decode prog_19_method_2_code 18 = .ok (.iload_n 1, 1) := by decide +kernel
theorem d1_19 : decode prog_19_method_2_code 19 = .ok (.sipush 224, 3) := by decide +kernel
theorem d1_22 : decode prog_19_method_2_code 22 = .ok (.if_icmp .lt 8, 3) := by decide +kernel
theorem d1_25 : decode prog_19_method_2_code 25 = .ok (.iconst 3, 1) := by decide +kernel
theorem d1_26 : decode prog_19_method_2_code 26 = .ok (.istore_n 2, 1) := by decide +kernel
theorem d1_27 : decode prog_19_method_2_code 27 = .ok (.goto 17, 3) := by decide +kernel
theorem d1_30 : decode prog_19_method_2_code 30 = .ok (.iload_n 1, 1) := by decide +kernel
theorem d1_31 : decode prog_19_method_2_code 31 = .ok (.sipush 192, 3) := by decide +kernel
theorem d1_34 : decode prog_19_method_2_code 34 = .ok (.if_icmp .lt 8, 3) := by decide +kernel
theorem d1_37 : decode prog_19_method_2_code 37 = .ok (.iconst 2, 1) := by decide +kernel
theorem d1_38 : decode prog_19_method_2_code 38 = .ok (.istore_n 2, 1) := by decide +kernel
theorem d1_39 : decode prog_19_method_2_code 39 = .ok (.goto 5, 3) := by decide +kernel
theorem d1_42 : decode prog_19_method_2_code 42 = .ok (.iconst 1, 1) := by decide +kernel
theorem d1_43 : decode prog_19_method_2_code 43 = .ok (.istore_n 2, 1) := by decide +kernel
theorem d1_44 : decode prog_19_method_2_code 44 = .ok (.iload_n 2, 1) := by decide +kernel
theorem d1_45 : decode prog_19_method_2_code 45 = .ok (.ireturn, 1) := by decide +kernel
def Q1 (p1 : Int32) (h0 : Heap) (n0 : Nat) (v : Option Value) (h : Heap) (L : List Loc) : Prop := v = some (.int (oLen p1)) ∧ Fr n0 L ∧ h = h0
theorem ef_1 (m : MethodId) (x0 : Int32) : entryFrame m #[(.int x0)] 3 = mkF m 0 #[.val (.int x0), .unset, .unset] [] := by first | (simp [entryFrame, mkF, argsToLocals, Value.category]; done) | rfl
theorem pn_1 : plainName "com/example/firm_json/firmjson/Utf8Decoder" = true := by first | (simp [plainName, overriddenIn]; done) | decide +kernel
set_option maxRecDepth 65536 in
set_option maxHeartbeats 40000000 in
theorem rm1 (l : Launch) (Z : State) (a0 : Array Value) (hw : ∀ d ∈ tables_1, d.before a0 Z = true) (ws : List Jvm.Cond) (p1 : Int32) (h0 : Heap) (n0 : Nat) (Z0 : n0 ≤ h0.size)  :
    MetFree l (⟨"com/example/firm_json/firmjson/Utf8Decoder", "length", "(B)I"⟩ : MethodName) (head1 (Jvm.Cond.code (⟨"com/example/firm_json/firmjson/Utf8Decoder", "length", "(B)I"⟩ : MethodName) prog_19_method_2_code 3 (some .int) :: ws) ({ frames := 0, cells := 0, slots := 0, locals := 0 } : Room)) (fun a U => a = #[(.int p1)] ∧ Z.Warmed39 U.vm ∧ U.heap = h0) (fun _ _ _ _ _ => True) (fun _ U o U' => ∃ v L, o = .returned v ∧ Q1 p1 h0 n0 v U'.heap L ∧ FrameEnd U o U' L ({ frames := 0, cells := 0, slots := 0, locals := 0 } : Room).cells ({ frames := 0, cells := 0, slots := 0, locals := 0 } : Room).slots) := by
  refine MetFree.of_bodySF (plainFor_of_name pn_1) hisR ?_
  intro p e s m args below meth c s₁ Bd hml0 hP hK
  obtain ⟨rfl, hZ, hh⟩ := hP
  have hx := Bd.exec
  have hby := Bd.bytes
  have hml : c.maxLocals = 3 := hml0
  have hown : s.vm.findClass "com/example/firm_json/firmjson/Utf8Decoder" = some m.cls := findClass_of_methodNamed Bd.named
  have hnm := (name_of_methodNamed Bd.named Bd.method).1
  have X0 : Stand p l e ({ frames := 0, cells := 0, slots := 0, locals := 0 } : Room) s m #[(.int p1)] below meth c s₁ [] 0 0 := Stand.of_body Bd
  have e0 : s₁.heap = h0 := by rw [← hh, Bd.state]; rfl
  have N0 := Fr.nil n0
  suffices hgoal : OWp p e below s ({ frames := 0, cells := 0, slots := 0, locals := 0 } : Room).cells ({ frames := 0, cells := 0, slots := 0, locals := 0 } : Room).slots (Q1 p1 h0 n0) (s₁.setTop (mkF m 0 #[.val (.int p1), .unset, .unset] [])) by
    rw [← ef_1] at hgoal; exact hgoal
  refine own_st (F' := s₁.setTop (mkF m 1 #[.val (.int p1), .unset, .unset] [(.int p1)])) (fun t k => XS.iloadN X0.here hx rfl (hb hby d1_0) rfl k) ?_
  refine own_st (F' := s₁.setTop (mkF m 4 #[.val (.int p1), .unset, .unset] [(.int (255 : Int32)), (.int p1)])) (fun t k => XS.sipush X0.here hx rfl (hb hby d1_1) k) ?_
  refine own_st (F' := s₁.setTop (mkF m 5 #[.val (.int p1), .unset, .unset] [(.int (p1 &&& (255 : Int32)))])) (fun t k => XS.iand X0.here hx rfl (hb hby d1_4) rfl k) ?_
  refine own_st (F' := s₁.setTop (mkF m 6 #[.val (.int p1), .val (.int (p1 &&& (255 : Int32))), .unset] [])) (fun t k => XS.istoreN X0.here hx rfl (hb hby d1_5) rfl (l' := #[.val (.int p1), .val (.int (p1 &&& (255 : Int32))), .unset]) rfl k) ?_
  refine own_st (F' := s₁.setTop (mkF m 7 #[.val (.int p1), .val (.int (p1 &&& (255 : Int32))), .unset] [(.int (p1 &&& (255 : Int32)))])) (fun t k => XS.iloadN X0.here hx rfl (hb hby d1_6) rfl k) ?_
  refine own_st (F' := s₁.setTop (mkF m 10 #[.val (.int p1), .val (.int (p1 &&& (255 : Int32))), .unset] [(.int (240 : Int32)), (.int (p1 &&& (255 : Int32)))])) (fun t k => XS.sipush X0.here hx rfl (hb hby d1_7) k) ?_
  by_cases hc1 : (p1 &&& (255 : Int32)) < (240 : Int32)
  · -- pc 10: (p1 &&& (255 : Int32)) < (240 : Int32)
    refine own_st (F' := s₁.setTop (mkF m 18 #[.val (.int p1), .val (.int (p1 &&& (255 : Int32))), .unset] [])) (fun t k => XS.icmpYes X0.here hx rfl (pc0 := 10) (pc' := 18) rfl (hb hby d1_10) rfl (tlt hc1).1 (by decide) (by decide) k) ?_
    refine own_st (F' := s₁.setTop (mkF m 19 #[.val (.int p1), .val (.int (p1 &&& (255 : Int32))), .unset] [(.int (p1 &&& (255 : Int32)))])) (fun t k => XS.iloadN X0.here hx rfl (hb hby d1_18) rfl k) ?_
    refine own_st (F' := s₁.setTop (mkF m 22 #[.val (.int p1), .val (.int (p1 &&& (255 : Int32))), .unset] [(.int (224 : Int32)), (.int (p1 &&& (255 : Int32)))])) (fun t k => XS.sipush X0.here hx rfl (hb hby d1_19) k) ?_
    by_cases hc2 : (p1 &&& (255 : Int32)) < (224 : Int32)
    · -- pc 22: (p1 &&& (255 : Int32)) < (224 : Int32)
      refine own_st (F' := s₁.setTop (mkF m 30 #[.val (.int p1), .val (.int (p1 &&& (255 : Int32))), .unset] [])) (fun t k => XS.icmpYes X0.here hx rfl (pc0 := 22) (pc' := 30) rfl (hb hby d1_22) rfl (tlt hc2).1 (by decide) (by decide) k) ?_
      refine own_st (F' := s₁.setTop (mkF m 31 #[.val (.int p1), .val (.int (p1 &&& (255 : Int32))), .unset] [(.int (p1 &&& (255 : Int32)))])) (fun t k => XS.iloadN X0.here hx rfl (hb hby d1_30) rfl k) ?_
      refine own_st (F' := s₁.setTop (mkF m 34 #[.val (.int p1), .val (.int (p1 &&& (255 : Int32))), .unset] [(.int (192 : Int32)), (.int (p1 &&& (255 : Int32)))])) (fun t k => XS.sipush X0.here hx rfl (hb hby d1_31) k) ?_
      by_cases hc3 : (p1 &&& (255 : Int32)) < (192 : Int32)
      · -- pc 34: (p1 &&& (255 : Int32)) < (192 : Int32)
        refine own_st (F' := s₁.setTop (mkF m 42 #[.val (.int p1), .val (.int (p1 &&& (255 : Int32))), .unset] [])) (fun t k => XS.icmpYes X0.here hx rfl (pc0 := 34) (pc' := 42) rfl (hb hby d1_34) rfl (tlt hc3).1 (by decide) (by decide) k) ?_
        refine own_st (F' := s₁.setTop (mkF m 43 #[.val (.int p1), .val (.int (p1 &&& (255 : Int32))), .unset] [(.int (1 : Int32))])) (fun t k => XS.iconst X0.here hx rfl (hb hby d1_42) k) ?_
        refine own_st (F' := s₁.setTop (mkF m 44 #[.val (.int p1), .val (.int (p1 &&& (255 : Int32))), .val (.int (1 : Int32))] [])) (fun t k => XS.istoreN X0.here hx rfl (hb hby d1_43) rfl (l' := #[.val (.int p1), .val (.int (p1 &&& (255 : Int32))), .val (.int (1 : Int32))]) rfl k) ?_
        refine own_st (F' := s₁.setTop (mkF m 45 #[.val (.int p1), .val (.int (p1 &&& (255 : Int32))), .val (.int (1 : Int32))] [(.int (1 : Int32))])) (fun t k => XS.iloadN X0.here hx rfl (hb hby d1_44) rfl k) ?_
        refine own_fin X0 (some (.int (1 : Int32))) (fun h => by rw [Bd.returns] at h; cases h) Bd.notSynchronized (by decide) (by decide) (fun fs hr => X0.ireturnOut hx (t := .int) Bd.returns rfl (Or.inl rfl) (hb hby d1_45) hr) ?_
        rw [e0]
        exact ⟨by simp [oLen, oL, hc1, hc2, hc3], N0, rfl⟩
      · -- pc 34: not (p1 &&& (255 : Int32)) < (192 : Int32)
        refine own_st (F' := s₁.setTop (mkF m 37 #[.val (.int p1), .val (.int (p1 &&& (255 : Int32))), .unset] [])) (fun t k => XS.icmpNo X0.here hx rfl (hb hby d1_34) rfl (flt hc3).1 k) ?_
        refine own_st (F' := s₁.setTop (mkF m 38 #[.val (.int p1), .val (.int (p1 &&& (255 : Int32))), .unset] [(.int (2 : Int32))])) (fun t k => XS.iconst X0.here hx rfl (hb hby d1_37) k) ?_
        refine own_st (F' := s₁.setTop (mkF m 39 #[.val (.int p1), .val (.int (p1 &&& (255 : Int32))), .val (.int (2 : Int32))] [])) (fun t k => XS.istoreN X0.here hx rfl (hb hby d1_38) rfl (l' := #[.val (.int p1), .val (.int (p1 &&& (255 : Int32))), .val (.int (2 : Int32))]) rfl k) ?_
        refine own_st (F' := s₁.setTop (mkF m 44 #[.val (.int p1), .val (.int (p1 &&& (255 : Int32))), .val (.int (2 : Int32))] [])) (fun t k => XS.goto X0.here hx rfl (pc0 := 39) (pc' := 44) rfl (hb hby d1_39) (by decide) (by decide) k) ?_
        refine own_st (F' := s₁.setTop (mkF m 45 #[.val (.int p1), .val (.int (p1 &&& (255 : Int32))), .val (.int (2 : Int32))] [(.int (2 : Int32))])) (fun t k => XS.iloadN X0.here hx rfl (hb hby d1_44) rfl k) ?_
        refine own_fin X0 (some (.int (2 : Int32))) (fun h => by rw [Bd.returns] at h; cases h) Bd.notSynchronized (by decide) (by decide) (fun fs hr => X0.ireturnOut hx (t := .int) Bd.returns rfl (Or.inl rfl) (hb hby d1_45) hr) ?_
        rw [e0]
        exact ⟨by simp [oLen, oL, hc1, hc2, hc3], N0, rfl⟩
    · -- pc 22: not (p1 &&& (255 : Int32)) < (224 : Int32)
      refine own_st (F' := s₁.setTop (mkF m 25 #[.val (.int p1), .val (.int (p1 &&& (255 : Int32))), .unset] [])) (fun t k => XS.icmpNo X0.here hx rfl (hb hby d1_22) rfl (flt hc2).1 k) ?_
      refine own_st (F' := s₁.setTop (mkF m 26 #[.val (.int p1), .val (.int (p1 &&& (255 : Int32))), .unset] [(.int (3 : Int32))])) (fun t k => XS.iconst X0.here hx rfl (hb hby d1_25) k) ?_
      refine own_st (F' := s₁.setTop (mkF m 27 #[.val (.int p1), .val (.int (p1 &&& (255 : Int32))), .val (.int (3 : Int32))] [])) (fun t k => XS.istoreN X0.here hx rfl (hb hby d1_26) rfl (l' := #[.val (.int p1), .val (.int (p1 &&& (255 : Int32))), .val (.int (3 : Int32))]) rfl k) ?_
      refine own_st (F' := s₁.setTop (mkF m 44 #[.val (.int p1), .val (.int (p1 &&& (255 : Int32))), .val (.int (3 : Int32))] [])) (fun t k => XS.goto X0.here hx rfl (pc0 := 27) (pc' := 44) rfl (hb hby d1_27) (by decide) (by decide) k) ?_
      refine own_st (F' := s₁.setTop (mkF m 45 #[.val (.int p1), .val (.int (p1 &&& (255 : Int32))), .val (.int (3 : Int32))] [(.int (3 : Int32))])) (fun t k => XS.iloadN X0.here hx rfl (hb hby d1_44) rfl k) ?_
      refine own_fin X0 (some (.int (3 : Int32))) (fun h => by rw [Bd.returns] at h; cases h) Bd.notSynchronized (by decide) (by decide) (fun fs hr => X0.ireturnOut hx (t := .int) Bd.returns rfl (Or.inl rfl) (hb hby d1_45) hr) ?_
      rw [e0]
      exact ⟨by simp [oLen, oL, hc1, hc2], N0, rfl⟩
  · -- pc 10: not (p1 &&& (255 : Int32)) < (240 : Int32)
    refine own_st (F' := s₁.setTop (mkF m 13 #[.val (.int p1), .val (.int (p1 &&& (255 : Int32))), .unset] [])) (fun t k => XS.icmpNo X0.here hx rfl (hb hby d1_10) rfl (flt hc1).1 k) ?_
    refine own_st (F' := s₁.setTop (mkF m 14 #[.val (.int p1), .val (.int (p1 &&& (255 : Int32))), .unset] [(.int (4 : Int32))])) (fun t k => XS.iconst X0.here hx rfl (hb hby d1_13) k) ?_
    refine own_st (F' := s₁.setTop (mkF m 15 #[.val (.int p1), .val (.int (p1 &&& (255 : Int32))), .val (.int (4 : Int32))] [])) (fun t k => XS.istoreN X0.here hx rfl (hb hby d1_14) rfl (l' := #[.val (.int p1), .val (.int (p1 &&& (255 : Int32))), .val (.int (4 : Int32))]) rfl k) ?_
    refine own_st (F' := s₁.setTop (mkF m 44 #[.val (.int p1), .val (.int (p1 &&& (255 : Int32))), .val (.int (4 : Int32))] [])) (fun t k => XS.goto X0.here hx rfl (pc0 := 15) (pc' := 44) rfl (hb hby d1_15) (by decide) (by decide) k) ?_
    refine own_st (F' := s₁.setTop (mkF m 45 #[.val (.int p1), .val (.int (p1 &&& (255 : Int32))), .val (.int (4 : Int32))] [(.int (4 : Int32))])) (fun t k => XS.iloadN X0.here hx rfl (hb hby d1_44) rfl k) ?_
    refine own_fin X0 (some (.int (4 : Int32))) (fun h => by rw [Bd.returns] at h; cases h) Bd.notSynchronized (by decide) (by decide) (fun fs hr => X0.ireturnOut hx (t := .int) Bd.returns rfl (Or.inl rfl) (hb hby d1_45) hr) ?_
    rw [e0]
    exact ⟨by simp [oLen, oL, hc1], N0, rfl⟩
def Q0 (p1 : Int32) (h0 : Heap) (n0 : Nat) (v : Option Value) (h : Heap) (L : List Loc) : Prop := v = some (.int 1) ∧ Fr n0 L
theorem ef_0 (m : MethodId) (x0 : Int32) : entryFrame m #[(.int x0)] maxLocals = mkF m 0 #[.val (.int x0), .unset, .unset, .unset] [] := by first | (simp [entryFrame, mkF, argsToLocals, Value.category, maxLocals]; done) | rfl
theorem pn_0 : plainName "com/example/firm_json/firmjson/Utf8DecoderLengthPinLaw" = true := by first | (simp [plainName, overriddenIn]; done) | decide +kernel
set_option maxRecDepth 65536 in
set_option maxHeartbeats 40000000 in
theorem rm0 (l : Launch) (Z : State) (a0 : Array Value) (hw : ∀ d ∈ tables_1, d.before a0 Z = true) (ws : List Jvm.Cond) (p1 : Int32) (h0 : Heap) (n0 : Nat) (Z0 : n0 ≤ h0.size)  :
    MetFree l x (head1 (Jvm.Cond.code x code maxLocals ret :: ws) room_1) (fun a U => a = #[(.int p1)] ∧ Z.Warmed39 U.vm ∧ U.heap = h0) (fun _ _ _ _ _ => True) (fun _ U o U' => ∃ v L, o = .returned v ∧ Q0 p1 h0 n0 v U'.heap L ∧ FrameEnd U o U' L room_1.cells room_1.slots) := by
  refine MetFree.of_bodySF (plainFor_of_name pn_0) hisR ?_
  intro p e s m args below meth c s₁ Bd hml0 hP hK
  obtain ⟨rfl, hZ, hh⟩ := hP
  have hx := Bd.exec
  have hby := Bd.bytes
  have hml : c.maxLocals = 4 := hml0
  have hown : s.vm.findClass "com/example/firm_json/firmjson/Utf8DecoderLengthPinLaw" = some m.cls := findClass_of_methodNamed Bd.named
  have hnm := (name_of_methodNamed Bd.named Bd.method).1
  have X0 : Stand p l e room_1 s m #[(.int p1)] below meth c s₁ [] 0 0 := Stand.of_body Bd
  have e0 : s₁.heap = h0 := by rw [← hh, Bd.state]; rfl
  have N0 := Fr.nil n0
  suffices hgoal : OWp p e below s room_1.cells room_1.slots (Q0 p1 h0 n0) (s₁.setTop (mkF m 0 #[.val (.int p1), .unset, .unset, .unset] [])) by
    rw [← ef_0] at hgoal; exact hgoal
  refine own_st (F' := s₁.setTop (mkF m 1 #[.val (.int p1), .unset, .unset, .unset] [(.int p1)])) (fun t k => XS.iloadN X0.here hx rfl (hb hby at_0) rfl k) ?_
  refine own_st (F' := s₁.setTop (mkF m 2 #[.val (.int p1), .unset, .unset, .unset] [(.int (p1.toInt8.toInt32))])) (fun t k => XS.i2b X0.here hx rfl (hb hby at_1) rfl k) ?_
  refine own_st (F' := s₁.setTop (mkF m 3 #[.val (.int p1), .val (.int (p1.toInt8.toInt32)), .unset, .unset] [])) (fun t k => XS.istoreN X0.here hx rfl (hb hby at_2) rfl (l' := #[.val (.int p1), .val (.int (p1.toInt8.toInt32)), .unset, .unset]) rfl k) ?_
  refine own_st (F' := s₁.setTop (mkF m 4 #[.val (.int p1), .val (.int (p1.toInt8.toInt32)), .unset, .unset] [(.int p1)])) (fun t k => XS.iloadN X0.here hx rfl (hb hby at_3) rfl k) ?_
  refine own_st (F' := s₁.setTop (mkF m 7 #[.val (.int p1), .val (.int (p1.toInt8.toInt32)), .unset, .unset] [(.int (255 : Int32)), (.int p1)])) (fun t k => XS.sipush X0.here hx rfl (hb hby at_4) k) ?_
  refine own_st (F' := s₁.setTop (mkF m 8 #[.val (.int p1), .val (.int (p1.toInt8.toInt32)), .unset, .unset] [(.int (p1 &&& (255 : Int32)))])) (fun t k => XS.iand X0.here hx rfl (hb hby at_7) rfl k) ?_
  refine own_st (F' := s₁.setTop (mkF m 9 #[.val (.int p1), .val (.int (p1.toInt8.toInt32)), .val (.int (p1 &&& (255 : Int32))), .unset] [])) (fun t k => XS.istoreN X0.here hx rfl (hb hby at_8) rfl (l' := #[.val (.int p1), .val (.int (p1.toInt8.toInt32)), .val (.int (p1 &&& (255 : Int32))), .unset]) rfl k) ?_
  refine own_st (F' := s₁.setTop (mkF m 10 #[.val (.int p1), .val (.int (p1.toInt8.toInt32)), .val (.int (p1 &&& (255 : Int32))), .unset] [(.int (1 : Int32))])) (fun t k => XS.iconst X0.here hx rfl (hb hby at_9) k) ?_
  refine own_st (F' := s₁.setTop (mkF m 11 #[.val (.int p1), .val (.int (p1.toInt8.toInt32)), .val (.int (p1 &&& (255 : Int32))), .val (.int (1 : Int32))] [])) (fun t k => XS.istoreN X0.here hx rfl (hb hby at_10) rfl (l' := #[.val (.int p1), .val (.int (p1.toInt8.toInt32)), .val (.int (p1 &&& (255 : Int32))), .val (.int (1 : Int32))]) rfl k) ?_
  refine own_st (F' := s₁.setTop (mkF m 12 #[.val (.int p1), .val (.int (p1.toInt8.toInt32)), .val (.int (p1 &&& (255 : Int32))), .val (.int (1 : Int32))] [(.int (p1 &&& (255 : Int32)))])) (fun t k => XS.iloadN X0.here hx rfl (hb hby at_11) rfl k) ?_
  refine own_st (F' := s₁.setTop (mkF m 15 #[.val (.int p1), .val (.int (p1.toInt8.toInt32)), .val (.int (p1 &&& (255 : Int32))), .val (.int (1 : Int32))] [(.int (128 : Int32)), (.int (p1 &&& (255 : Int32)))])) (fun t k => XS.sipush X0.here hx rfl (hb hby at_12) k) ?_
  refine own_st (F' := s₁.setTop (mkF m 16 #[.val (.int p1), .val (.int (p1.toInt8.toInt32)), .val (.int (p1 &&& (255 : Int32))), .val (.int (1 : Int32))] [(.int ((p1 &&& (255 : Int32)) &&& (128 : Int32)))])) (fun t k => XS.iand X0.here hx rfl (hb hby at_15) rfl k) ?_
  by_cases hc1 : ((p1 &&& (255 : Int32)) &&& (128 : Int32)) = (0 : Int32)
  · -- pc 16: ((p1 &&& (255 : Int32)) &&& (128 : Int32)) = (0 : Int32)
    refine own_st (F' := s₁.setTop (mkF m 46 #[.val (.int p1), .val (.int (p1.toInt8.toInt32)), .val (.int (p1 &&& (255 : Int32))), .val (.int (1 : Int32))] [])) (fun t k => XS.ifYes X0.here hx rfl (pc0 := 16) (pc' := 46) rfl (hb hby at_16) rfl ((if0 _ _).trans (teq hc1).1) (by decide) (by decide) k) ?_
    refine own_st (F' := s₁.setTop (mkF m 47 #[.val (.int p1), .val (.int (p1.toInt8.toInt32)), .val (.int (p1 &&& (255 : Int32))), .val (.int (1 : Int32))] [(.int (p1.toInt8.toInt32))])) (fun t k => XS.iloadN X0.here hx rfl (hb hby at_46) rfl k) ?_
    refine own_callS X0 hx hZ (y := (⟨"com/example/firm_json/firmjson/Utf8Decoder", "length", "(B)I"⟩ : MethodName)) hown (hw _ (List.mem_of_getElem? (i := 0) rfl)) (hw _ (List.mem_of_getElem? (i := 1) rfl)) (hw _ (List.mem_of_getElem? (i := 2) rfl)) (hw _ (List.mem_of_getElem? (i := 3) rfl)) (rm1 l Z a0 hw [] (p1.toInt8.toInt32) h0 n0 Z0) (by decide) (W := 0) (argsL := [(.int (p1.toInt8.toInt32))]) (rest := []) (by decide) (by decide) (by rw [hml]; rfl) (lenOf own_pd0 rfl) rfl rfl (Nat.le_of_eq rfl) (hb hby at_47) e0 (by decide) (by decide) ?_
    intro v2 T2 L2 hQ2 X2
    obtain ⟨rfl, N2q, e2⟩ := hQ2
    have N2 := Fr.app N0 N2q
    show OWp p e below s _ _ _ (T2.setTop (mkF m 50 #[.val (.int p1), .val (.int (p1.toInt8.toInt32)), .val (.int (p1 &&& (255 : Int32))), .val (.int (1 : Int32))] [(.int (oLen (p1.toInt8.toInt32)))]))
    refine own_st (F' := T2.setTop (mkF m 51 #[.val (.int p1), .val (.int (p1.toInt8.toInt32)), .val (.int (p1 &&& (255 : Int32))), .val (.int (1 : Int32))] [(.int (1 : Int32)), (.int (oLen (p1.toInt8.toInt32)))])) (fun t k => XS.iloadN X2.here hx rfl (hb hby at_50) rfl k) ?_
    refine own_st (F' := T2.setTop (mkF m 54 #[.val (.int p1), .val (.int (p1.toInt8.toInt32)), .val (.int (p1 &&& (255 : Int32))), .val (.int (1 : Int32))] [])) (fun t k => XS.icmpNo X2.here hx rfl (hb hby at_51) rfl (teq (by rw [own_alt]; simp [hc1] : (oLen (p1.toInt8.toInt32)) = (1 : Int32))).2 k) ?_
    refine own_st (F' := T2.setTop (mkF m 55 #[.val (.int p1), .val (.int (p1.toInt8.toInt32)), .val (.int (p1 &&& (255 : Int32))), .val (.int (1 : Int32))] [(.int (1 : Int32))])) (fun t k => XS.iconst X2.here hx rfl (hb hby at_54) k) ?_
    refine own_st (F' := T2.setTop (mkF m 59 #[.val (.int p1), .val (.int (p1.toInt8.toInt32)), .val (.int (p1 &&& (255 : Int32))), .val (.int (1 : Int32))] [(.int (1 : Int32))])) (fun t k => XS.goto X2.here hx rfl (pc0 := 55) (pc' := 59) rfl (hb hby at_55) (by decide) (by decide) k) ?_
    refine own_fin X2 (some (.int (1 : Int32))) (fun h => by rw [Bd.returns] at h; cases h) Bd.notSynchronized (by decide) (by decide) (fun fs hr => retN X2 hx (t := .boolean) Bd.returns (by simp) (hb hby at_59) hr) ?_
    rw [e2]
    exact ⟨rfl, N2⟩
  · -- pc 16: not ((p1 &&& (255 : Int32)) &&& (128 : Int32)) = (0 : Int32)
    refine own_st (F' := s₁.setTop (mkF m 19 #[.val (.int p1), .val (.int (p1.toInt8.toInt32)), .val (.int (p1 &&& (255 : Int32))), .val (.int (1 : Int32))] [])) (fun t k => XS.ifNo X0.here hx rfl (hb hby at_16) rfl ((if0 _ _).trans (feq hc1).1) k) ?_
    refine own_st (F' := s₁.setTop (mkF m 20 #[.val (.int p1), .val (.int (p1.toInt8.toInt32)), .val (.int (p1 &&& (255 : Int32))), .val (.int (1 : Int32))] [(.int (p1 &&& (255 : Int32)))])) (fun t k => XS.iloadN X0.here hx rfl (hb hby at_19) rfl k) ?_
    refine own_st (F' := s₁.setTop (mkF m 22 #[.val (.int p1), .val (.int (p1.toInt8.toInt32)), .val (.int (p1 &&& (255 : Int32))), .val (.int (1 : Int32))] [(.int (64 : Int32)), (.int (p1 &&& (255 : Int32)))])) (fun t k => XS.bipush X0.here hx rfl (hb hby at_20) k) ?_
    refine own_st (F' := s₁.setTop (mkF m 23 #[.val (.int p1), .val (.int (p1.toInt8.toInt32)), .val (.int (p1 &&& (255 : Int32))), .val (.int (1 : Int32))] [(.int ((p1 &&& (255 : Int32)) &&& (64 : Int32)))])) (fun t k => XS.iand X0.here hx rfl (hb hby at_22) rfl k) ?_
    by_cases hc3 : ((p1 &&& (255 : Int32)) &&& (64 : Int32)) = (0 : Int32)
    · -- pc 23: ((p1 &&& (255 : Int32)) &&& (64 : Int32)) = (0 : Int32)
      refine own_st (F' := s₁.setTop (mkF m 46 #[.val (.int p1), .val (.int (p1.toInt8.toInt32)), .val (.int (p1 &&& (255 : Int32))), .val (.int (1 : Int32))] [])) (fun t k => XS.ifYes X0.here hx rfl (pc0 := 23) (pc' := 46) rfl (hb hby at_23) rfl ((if0 _ _).trans (teq hc3).1) (by decide) (by decide) k) ?_
      refine own_st (F' := s₁.setTop (mkF m 47 #[.val (.int p1), .val (.int (p1.toInt8.toInt32)), .val (.int (p1 &&& (255 : Int32))), .val (.int (1 : Int32))] [(.int (p1.toInt8.toInt32))])) (fun t k => XS.iloadN X0.here hx rfl (hb hby at_46) rfl k) ?_
      refine own_callS X0 hx hZ (y := (⟨"com/example/firm_json/firmjson/Utf8Decoder", "length", "(B)I"⟩ : MethodName)) hown (hw _ (List.mem_of_getElem? (i := 0) rfl)) (hw _ (List.mem_of_getElem? (i := 1) rfl)) (hw _ (List.mem_of_getElem? (i := 2) rfl)) (hw _ (List.mem_of_getElem? (i := 3) rfl)) (rm1 l Z a0 hw [] (p1.toInt8.toInt32) h0 n0 Z0) (by decide) (W := 0) (argsL := [(.int (p1.toInt8.toInt32))]) (rest := []) (by decide) (by decide) (by rw [hml]; rfl) (lenOf own_pd0 rfl) rfl rfl (Nat.le_of_eq rfl) (hb hby at_47) e0 (by decide) (by decide) ?_
      intro v4 T4 L4 hQ4 X4
      obtain ⟨rfl, N4q, e4⟩ := hQ4
      have N4 := Fr.app N0 N4q
      show OWp p e below s _ _ _ (T4.setTop (mkF m 50 #[.val (.int p1), .val (.int (p1.toInt8.toInt32)), .val (.int (p1 &&& (255 : Int32))), .val (.int (1 : Int32))] [(.int (oLen (p1.toInt8.toInt32)))]))
      refine own_st (F' := T4.setTop (mkF m 51 #[.val (.int p1), .val (.int (p1.toInt8.toInt32)), .val (.int (p1 &&& (255 : Int32))), .val (.int (1 : Int32))] [(.int (1 : Int32)), (.int (oLen (p1.toInt8.toInt32)))])) (fun t k => XS.iloadN X4.here hx rfl (hb hby at_50) rfl k) ?_
      refine own_st (F' := T4.setTop (mkF m 54 #[.val (.int p1), .val (.int (p1.toInt8.toInt32)), .val (.int (p1 &&& (255 : Int32))), .val (.int (1 : Int32))] [])) (fun t k => XS.icmpNo X4.here hx rfl (hb hby at_51) rfl (teq (by rw [own_alt]; simp [hc1, hc3] : (oLen (p1.toInt8.toInt32)) = (1 : Int32))).2 k) ?_
      refine own_st (F' := T4.setTop (mkF m 55 #[.val (.int p1), .val (.int (p1.toInt8.toInt32)), .val (.int (p1 &&& (255 : Int32))), .val (.int (1 : Int32))] [(.int (1 : Int32))])) (fun t k => XS.iconst X4.here hx rfl (hb hby at_54) k) ?_
      refine own_st (F' := T4.setTop (mkF m 59 #[.val (.int p1), .val (.int (p1.toInt8.toInt32)), .val (.int (p1 &&& (255 : Int32))), .val (.int (1 : Int32))] [(.int (1 : Int32))])) (fun t k => XS.goto X4.here hx rfl (pc0 := 55) (pc' := 59) rfl (hb hby at_55) (by decide) (by decide) k) ?_
      refine own_fin X4 (some (.int (1 : Int32))) (fun h => by rw [Bd.returns] at h; cases h) Bd.notSynchronized (by decide) (by decide) (fun fs hr => retN X4 hx (t := .boolean) Bd.returns (by simp) (hb hby at_59) hr) ?_
      rw [e4]
      exact ⟨rfl, N4⟩
    · -- pc 23: not ((p1 &&& (255 : Int32)) &&& (64 : Int32)) = (0 : Int32)
      refine own_st (F' := s₁.setTop (mkF m 26 #[.val (.int p1), .val (.int (p1.toInt8.toInt32)), .val (.int (p1 &&& (255 : Int32))), .val (.int (1 : Int32))] [])) (fun t k => XS.ifNo X0.here hx rfl (hb hby at_23) rfl ((if0 _ _).trans (feq hc3).1) k) ?_
      refine own_st (F' := s₁.setTop (mkF m 27 #[.val (.int p1), .val (.int (p1.toInt8.toInt32)), .val (.int (p1 &&& (255 : Int32))), .val (.int (1 : Int32))] [(.int (2 : Int32))])) (fun t k => XS.iconst X0.here hx rfl (hb hby at_26) k) ?_
      refine own_st (F' := s₁.setTop (mkF m 28 #[.val (.int p1), .val (.int (p1.toInt8.toInt32)), .val (.int (p1 &&& (255 : Int32))), .val (.int (2 : Int32))] [])) (fun t k => XS.istoreN X0.here hx rfl (hb hby at_27) rfl (l' := #[.val (.int p1), .val (.int (p1.toInt8.toInt32)), .val (.int (p1 &&& (255 : Int32))), .val (.int (2 : Int32))]) rfl k) ?_
      refine own_st (F' := s₁.setTop (mkF m 29 #[.val (.int p1), .val (.int (p1.toInt8.toInt32)), .val (.int (p1 &&& (255 : Int32))), .val (.int (2 : Int32))] [(.int (p1 &&& (255 : Int32)))])) (fun t k => XS.iloadN X0.here hx rfl (hb hby at_28) rfl k) ?_
      refine own_st (F' := s₁.setTop (mkF m 31 #[.val (.int p1), .val (.int (p1.toInt8.toInt32)), .val (.int (p1 &&& (255 : Int32))), .val (.int (2 : Int32))] [(.int (32 : Int32)), (.int (p1 &&& (255 : Int32)))])) (fun t k => XS.bipush X0.here hx rfl (hb hby at_29) k) ?_
      refine own_st (F' := s₁.setTop (mkF m 32 #[.val (.int p1), .val (.int (p1.toInt8.toInt32)), .val (.int (p1 &&& (255 : Int32))), .val (.int (2 : Int32))] [(.int ((p1 &&& (255 : Int32)) &&& (32 : Int32)))])) (fun t k => XS.iand X0.here hx rfl (hb hby at_31) rfl k) ?_
      by_cases hc5 : ((p1 &&& (255 : Int32)) &&& (32 : Int32)) = (0 : Int32)
      · -- pc 32: ((p1 &&& (255 : Int32)) &&& (32 : Int32)) = (0 : Int32)
        refine own_st (F' := s₁.setTop (mkF m 46 #[.val (.int p1), .val (.int (p1.toInt8.toInt32)), .val (.int (p1 &&& (255 : Int32))), .val (.int (2 : Int32))] [])) (fun t k => XS.ifYes X0.here hx rfl (pc0 := 32) (pc' := 46) rfl (hb hby at_32) rfl ((if0 _ _).trans (teq hc5).1) (by decide) (by decide) k) ?_
        refine own_st (F' := s₁.setTop (mkF m 47 #[.val (.int p1), .val (.int (p1.toInt8.toInt32)), .val (.int (p1 &&& (255 : Int32))), .val (.int (2 : Int32))] [(.int (p1.toInt8.toInt32))])) (fun t k => XS.iloadN X0.here hx rfl (hb hby at_46) rfl k) ?_
        refine own_callS X0 hx hZ (y := (⟨"com/example/firm_json/firmjson/Utf8Decoder", "length", "(B)I"⟩ : MethodName)) hown (hw _ (List.mem_of_getElem? (i := 0) rfl)) (hw _ (List.mem_of_getElem? (i := 1) rfl)) (hw _ (List.mem_of_getElem? (i := 2) rfl)) (hw _ (List.mem_of_getElem? (i := 3) rfl)) (rm1 l Z a0 hw [] (p1.toInt8.toInt32) h0 n0 Z0) (by decide) (W := 0) (argsL := [(.int (p1.toInt8.toInt32))]) (rest := []) (by decide) (by decide) (by rw [hml]; rfl) (lenOf own_pd0 rfl) rfl rfl (Nat.le_of_eq rfl) (hb hby at_47) e0 (by decide) (by decide) ?_
        intro v6 T6 L6 hQ6 X6
        obtain ⟨rfl, N6q, e6⟩ := hQ6
        have N6 := Fr.app N0 N6q
        show OWp p e below s _ _ _ (T6.setTop (mkF m 50 #[.val (.int p1), .val (.int (p1.toInt8.toInt32)), .val (.int (p1 &&& (255 : Int32))), .val (.int (2 : Int32))] [(.int (oLen (p1.toInt8.toInt32)))]))
        refine own_st (F' := T6.setTop (mkF m 51 #[.val (.int p1), .val (.int (p1.toInt8.toInt32)), .val (.int (p1 &&& (255 : Int32))), .val (.int (2 : Int32))] [(.int (2 : Int32)), (.int (oLen (p1.toInt8.toInt32)))])) (fun t k => XS.iloadN X6.here hx rfl (hb hby at_50) rfl k) ?_
        refine own_st (F' := T6.setTop (mkF m 54 #[.val (.int p1), .val (.int (p1.toInt8.toInt32)), .val (.int (p1 &&& (255 : Int32))), .val (.int (2 : Int32))] [])) (fun t k => XS.icmpNo X6.here hx rfl (hb hby at_51) rfl (teq (by rw [own_alt]; simp [hc1, hc3, hc5] : (oLen (p1.toInt8.toInt32)) = (2 : Int32))).2 k) ?_
        refine own_st (F' := T6.setTop (mkF m 55 #[.val (.int p1), .val (.int (p1.toInt8.toInt32)), .val (.int (p1 &&& (255 : Int32))), .val (.int (2 : Int32))] [(.int (1 : Int32))])) (fun t k => XS.iconst X6.here hx rfl (hb hby at_54) k) ?_
        refine own_st (F' := T6.setTop (mkF m 59 #[.val (.int p1), .val (.int (p1.toInt8.toInt32)), .val (.int (p1 &&& (255 : Int32))), .val (.int (2 : Int32))] [(.int (1 : Int32))])) (fun t k => XS.goto X6.here hx rfl (pc0 := 55) (pc' := 59) rfl (hb hby at_55) (by decide) (by decide) k) ?_
        refine own_fin X6 (some (.int (1 : Int32))) (fun h => by rw [Bd.returns] at h; cases h) Bd.notSynchronized (by decide) (by decide) (fun fs hr => retN X6 hx (t := .boolean) Bd.returns (by simp) (hb hby at_59) hr) ?_
        rw [e6]
        exact ⟨rfl, N6⟩
      · -- pc 32: not ((p1 &&& (255 : Int32)) &&& (32 : Int32)) = (0 : Int32)
        refine own_st (F' := s₁.setTop (mkF m 35 #[.val (.int p1), .val (.int (p1.toInt8.toInt32)), .val (.int (p1 &&& (255 : Int32))), .val (.int (2 : Int32))] [])) (fun t k => XS.ifNo X0.here hx rfl (hb hby at_32) rfl ((if0 _ _).trans (feq hc5).1) k) ?_
        refine own_st (F' := s₁.setTop (mkF m 36 #[.val (.int p1), .val (.int (p1.toInt8.toInt32)), .val (.int (p1 &&& (255 : Int32))), .val (.int (2 : Int32))] [(.int (3 : Int32))])) (fun t k => XS.iconst X0.here hx rfl (hb hby at_35) k) ?_
        refine own_st (F' := s₁.setTop (mkF m 37 #[.val (.int p1), .val (.int (p1.toInt8.toInt32)), .val (.int (p1 &&& (255 : Int32))), .val (.int (3 : Int32))] [])) (fun t k => XS.istoreN X0.here hx rfl (hb hby at_36) rfl (l' := #[.val (.int p1), .val (.int (p1.toInt8.toInt32)), .val (.int (p1 &&& (255 : Int32))), .val (.int (3 : Int32))]) rfl k) ?_
        refine own_st (F' := s₁.setTop (mkF m 38 #[.val (.int p1), .val (.int (p1.toInt8.toInt32)), .val (.int (p1 &&& (255 : Int32))), .val (.int (3 : Int32))] [(.int (p1 &&& (255 : Int32)))])) (fun t k => XS.iloadN X0.here hx rfl (hb hby at_37) rfl k) ?_
        refine own_st (F' := s₁.setTop (mkF m 40 #[.val (.int p1), .val (.int (p1.toInt8.toInt32)), .val (.int (p1 &&& (255 : Int32))), .val (.int (3 : Int32))] [(.int (16 : Int32)), (.int (p1 &&& (255 : Int32)))])) (fun t k => XS.bipush X0.here hx rfl (hb hby at_38) k) ?_
        refine own_st (F' := s₁.setTop (mkF m 41 #[.val (.int p1), .val (.int (p1.toInt8.toInt32)), .val (.int (p1 &&& (255 : Int32))), .val (.int (3 : Int32))] [(.int ((p1 &&& (255 : Int32)) &&& (16 : Int32)))])) (fun t k => XS.iand X0.here hx rfl (hb hby at_40) rfl k) ?_
        by_cases hc7 : ((p1 &&& (255 : Int32)) &&& (16 : Int32)) = (0 : Int32)
        · -- pc 41: ((p1 &&& (255 : Int32)) &&& (16 : Int32)) = (0 : Int32)
          refine own_st (F' := s₁.setTop (mkF m 46 #[.val (.int p1), .val (.int (p1.toInt8.toInt32)), .val (.int (p1 &&& (255 : Int32))), .val (.int (3 : Int32))] [])) (fun t k => XS.ifYes X0.here hx rfl (pc0 := 41) (pc' := 46) rfl (hb hby at_41) rfl ((if0 _ _).trans (teq hc7).1) (by decide) (by decide) k) ?_
          refine own_st (F' := s₁.setTop (mkF m 47 #[.val (.int p1), .val (.int (p1.toInt8.toInt32)), .val (.int (p1 &&& (255 : Int32))), .val (.int (3 : Int32))] [(.int (p1.toInt8.toInt32))])) (fun t k => XS.iloadN X0.here hx rfl (hb hby at_46) rfl k) ?_
          refine own_callS X0 hx hZ (y := (⟨"com/example/firm_json/firmjson/Utf8Decoder", "length", "(B)I"⟩ : MethodName)) hown (hw _ (List.mem_of_getElem? (i := 0) rfl)) (hw _ (List.mem_of_getElem? (i := 1) rfl)) (hw _ (List.mem_of_getElem? (i := 2) rfl)) (hw _ (List.mem_of_getElem? (i := 3) rfl)) (rm1 l Z a0 hw [] (p1.toInt8.toInt32) h0 n0 Z0) (by decide) (W := 0) (argsL := [(.int (p1.toInt8.toInt32))]) (rest := []) (by decide) (by decide) (by rw [hml]; rfl) (lenOf own_pd0 rfl) rfl rfl (Nat.le_of_eq rfl) (hb hby at_47) e0 (by decide) (by decide) ?_
          intro v8 T8 L8 hQ8 X8
          obtain ⟨rfl, N8q, e8⟩ := hQ8
          have N8 := Fr.app N0 N8q
          show OWp p e below s _ _ _ (T8.setTop (mkF m 50 #[.val (.int p1), .val (.int (p1.toInt8.toInt32)), .val (.int (p1 &&& (255 : Int32))), .val (.int (3 : Int32))] [(.int (oLen (p1.toInt8.toInt32)))]))
          refine own_st (F' := T8.setTop (mkF m 51 #[.val (.int p1), .val (.int (p1.toInt8.toInt32)), .val (.int (p1 &&& (255 : Int32))), .val (.int (3 : Int32))] [(.int (3 : Int32)), (.int (oLen (p1.toInt8.toInt32)))])) (fun t k => XS.iloadN X8.here hx rfl (hb hby at_50) rfl k) ?_
          refine own_st (F' := T8.setTop (mkF m 54 #[.val (.int p1), .val (.int (p1.toInt8.toInt32)), .val (.int (p1 &&& (255 : Int32))), .val (.int (3 : Int32))] [])) (fun t k => XS.icmpNo X8.here hx rfl (hb hby at_51) rfl (teq (by rw [own_alt]; simp [hc1, hc3, hc5, hc7] : (oLen (p1.toInt8.toInt32)) = (3 : Int32))).2 k) ?_
          refine own_st (F' := T8.setTop (mkF m 55 #[.val (.int p1), .val (.int (p1.toInt8.toInt32)), .val (.int (p1 &&& (255 : Int32))), .val (.int (3 : Int32))] [(.int (1 : Int32))])) (fun t k => XS.iconst X8.here hx rfl (hb hby at_54) k) ?_
          refine own_st (F' := T8.setTop (mkF m 59 #[.val (.int p1), .val (.int (p1.toInt8.toInt32)), .val (.int (p1 &&& (255 : Int32))), .val (.int (3 : Int32))] [(.int (1 : Int32))])) (fun t k => XS.goto X8.here hx rfl (pc0 := 55) (pc' := 59) rfl (hb hby at_55) (by decide) (by decide) k) ?_
          refine own_fin X8 (some (.int (1 : Int32))) (fun h => by rw [Bd.returns] at h; cases h) Bd.notSynchronized (by decide) (by decide) (fun fs hr => retN X8 hx (t := .boolean) Bd.returns (by simp) (hb hby at_59) hr) ?_
          rw [e8]
          exact ⟨rfl, N8⟩
        · -- pc 41: not ((p1 &&& (255 : Int32)) &&& (16 : Int32)) = (0 : Int32)
          refine own_st (F' := s₁.setTop (mkF m 44 #[.val (.int p1), .val (.int (p1.toInt8.toInt32)), .val (.int (p1 &&& (255 : Int32))), .val (.int (3 : Int32))] [])) (fun t k => XS.ifNo X0.here hx rfl (hb hby at_41) rfl ((if0 _ _).trans (feq hc7).1) k) ?_
          refine own_st (F' := s₁.setTop (mkF m 45 #[.val (.int p1), .val (.int (p1.toInt8.toInt32)), .val (.int (p1 &&& (255 : Int32))), .val (.int (3 : Int32))] [(.int (4 : Int32))])) (fun t k => XS.iconst X0.here hx rfl (hb hby at_44) k) ?_
          refine own_st (F' := s₁.setTop (mkF m 46 #[.val (.int p1), .val (.int (p1.toInt8.toInt32)), .val (.int (p1 &&& (255 : Int32))), .val (.int (4 : Int32))] [])) (fun t k => XS.istoreN X0.here hx rfl (hb hby at_45) rfl (l' := #[.val (.int p1), .val (.int (p1.toInt8.toInt32)), .val (.int (p1 &&& (255 : Int32))), .val (.int (4 : Int32))]) rfl k) ?_
          refine own_st (F' := s₁.setTop (mkF m 47 #[.val (.int p1), .val (.int (p1.toInt8.toInt32)), .val (.int (p1 &&& (255 : Int32))), .val (.int (4 : Int32))] [(.int (p1.toInt8.toInt32))])) (fun t k => XS.iloadN X0.here hx rfl (hb hby at_46) rfl k) ?_
          refine own_callS X0 hx hZ (y := (⟨"com/example/firm_json/firmjson/Utf8Decoder", "length", "(B)I"⟩ : MethodName)) hown (hw _ (List.mem_of_getElem? (i := 0) rfl)) (hw _ (List.mem_of_getElem? (i := 1) rfl)) (hw _ (List.mem_of_getElem? (i := 2) rfl)) (hw _ (List.mem_of_getElem? (i := 3) rfl)) (rm1 l Z a0 hw [] (p1.toInt8.toInt32) h0 n0 Z0) (by decide) (W := 0) (argsL := [(.int (p1.toInt8.toInt32))]) (rest := []) (by decide) (by decide) (by rw [hml]; rfl) (lenOf own_pd0 rfl) rfl rfl (Nat.le_of_eq rfl) (hb hby at_47) e0 (by decide) (by decide) ?_
          intro v9 T9 L9 hQ9 X9
          obtain ⟨rfl, N9q, e9⟩ := hQ9
          have N9 := Fr.app N0 N9q
          show OWp p e below s _ _ _ (T9.setTop (mkF m 50 #[.val (.int p1), .val (.int (p1.toInt8.toInt32)), .val (.int (p1 &&& (255 : Int32))), .val (.int (4 : Int32))] [(.int (oLen (p1.toInt8.toInt32)))]))
          refine own_st (F' := T9.setTop (mkF m 51 #[.val (.int p1), .val (.int (p1.toInt8.toInt32)), .val (.int (p1 &&& (255 : Int32))), .val (.int (4 : Int32))] [(.int (4 : Int32)), (.int (oLen (p1.toInt8.toInt32)))])) (fun t k => XS.iloadN X9.here hx rfl (hb hby at_50) rfl k) ?_
          refine own_st (F' := T9.setTop (mkF m 54 #[.val (.int p1), .val (.int (p1.toInt8.toInt32)), .val (.int (p1 &&& (255 : Int32))), .val (.int (4 : Int32))] [])) (fun t k => XS.icmpNo X9.here hx rfl (hb hby at_51) rfl (teq (by rw [own_alt]; simp [hc1, hc3, hc5, hc7] : (oLen (p1.toInt8.toInt32)) = (4 : Int32))).2 k) ?_
          refine own_st (F' := T9.setTop (mkF m 55 #[.val (.int p1), .val (.int (p1.toInt8.toInt32)), .val (.int (p1 &&& (255 : Int32))), .val (.int (4 : Int32))] [(.int (1 : Int32))])) (fun t k => XS.iconst X9.here hx rfl (hb hby at_54) k) ?_
          refine own_st (F' := T9.setTop (mkF m 59 #[.val (.int p1), .val (.int (p1.toInt8.toInt32)), .val (.int (p1 &&& (255 : Int32))), .val (.int (4 : Int32))] [(.int (1 : Int32))])) (fun t k => XS.goto X9.here hx rfl (pc0 := 55) (pc' := 59) rfl (hb hby at_55) (by decide) (by decide) k) ?_
          refine own_fin X9 (some (.int (1 : Int32))) (fun h => by rw [Bd.returns] at h; cases h) Bd.notSynchronized (by decide) (by decide) (fun fs hr => retN X9 hx (t := .boolean) Bd.returns (by simp) (hb hby at_59) hr) ?_
          rw [e9]
          exact ⟨rfl, N9⟩
set_option maxRecDepth 65536 in
set_option maxHeartbeats 40000000 in
theorem comes_1 {Post : Tables → Env → Array Value → State → Outcome → State → Prop} (hpost : ∀ tb e args s v u, (limb_1_1.after args s (.returned v) u = true ∧ limb_1_2.after args s (.returned v) u = true ∧ True) → FrameEnd s (.returned v) u (Jvm.fieldLocs frame_1_writes args s ++ Jvm.arrayLocs frame_1_arrays args s ++ Jvm.staticLocs frame_1_statics s) 0 0 → Post tb e args s (.returned v) u) :
    ArmFor flags0 classFile x code maxLocals ret World_1 tables_1 room_1 Calls_1 rest_1 Pre_1 Post := by
  intro l hfl _ _ p e ha hc hk s m args below hf hA hF happ hP
  obtain ⟨hcalls, hrest, hpre⟩ := hP
  obtain ⟨-, -, -, hnamed, -, -, -, hat⟩ := (Spec.applies_iff hf).mp happ
  obtain ⟨hg, hn⟩ := and_e (Cond.before_iff.mp (show (Jvm.Cond.and given_1 narrow_1).before args s = true from hpre))
  obtain ⟨hcount, q0⟩ := and_e hg
  obtain ⟨w0, rfl⟩ : ∃ w0 : Value, args = #[w0] := by
    have hs : args.size = 1 := by simpa [Cond.value, given_1] using hcount
    obtain ⟨L⟩ := args
    match L, hs with
    | [w0], _ => exact ⟨w0, rfl⟩
  have hw := fun d (hd : d ∈ tables_1) => atoms_spec (ws := Jvm.Cond.code x code maxLocals ret :: tables_1) hat d (List.mem_cons_of_mem _ hd)
  obtain ⟨i0, ei0⟩ := is_v q0
  obtain rfl : w0 = (.int i0) := Option.some.inj ei0
  obtain ⟨n, o, h1, h2, h3, _, L, rfl, ⟨rfl, N⟩, hq⟩ := rm0 l s _ hw tables_1 i0 s.heap s.heap.size (Nat.le_refl _)  p e ha hc hk s m _ below hf ((Spec.applies_iff_loose hf).mp happ).1 ⟨rfl, State.Warmed39.refl s, rfl⟩ trivial
  refine ⟨n, _, h1, h2, h3, hpost _ _ _ _ _ _ ⟨Cond.after_iff.mpr rfl, Cond.after_iff.mpr (eq_i res_at (Term.int_eval (1)) rfl), trivial⟩ ⟨hq.1, hq.2.1, (hq.2.2.sift fun y hy => Or.inr (N y hy)).mono (by decide) (by decide)⟩⟩
theorem main_1_1 : Claimed_1_1 := comes_1 fun _ _ _ _ _ _ h hF => ⟨h.1, hF⟩
theorem main_1_2 : Claimed_1_2 := comes_1 fun _ _ _ _ _ _ h hF => ⟨h.2.1, hF⟩
end Jvm.Pilot.@@N@@
namespace Jvm.Pilot.@@N@@
open Jvm Jvm.ClassFile Sem Op Lib Jvm.Free Jvm.Stand Jvm.Pilot.@@N@@.Jvm.D
/-! MADE BY PROGRAM (witnessworld.py) out of the Statement's table words and the real class files: 9 classes; the members and pool entries that the words name. The judged class is class 1, her method 1. -/
namespace start1
open Jvm.ClassFile
def u (s : String) : CpInfo := .utf8 (stringToUtf16 s)
/-- a pool by its gaps: so many unusable entries, then the entry; so many at the end -/
def gap : Nat → List CpInfo → List CpInfo
  | 0, r => r
  | n + 1, r => .unusable :: gap n r
def poolList (es : List (Nat × CpInfo)) (last : Nat) : List CpInfo := es.foldr (fun e r => gap e.1 (e.2 :: r)) (gap last [])
def pool (es : List (Nat × CpInfo)) (last : Nat) : Array CpInfo := ⟨poolList es last⟩
def fileOf (pool : Array CpInfo) (this : Nat) (attrs : Array Attribute := #[]) (ms : Array MethodInfo := #[]) (fl : Nat := 33) (sup : Nat := 0) (ifs : Array Nat := #[]) (fds : Array FieldInfo := #[]) : ClassFile where
  minorVersion := 0
  majorVersion := 65
  constantPool := pool
  accessFlags := fl
  thisClass := this
  superClass := sup
  interfaces := ifs
  fields := fds
  methods := ms
  attributes := attrs
def plain (name : String) (sup : Option ClassId) : Class where
  name := name
  kind := .ordinary
  loader := none
  accessFlags := 33
  super := sup
  interfaces := #[]
  cf := none
  fields := #[]
  methods := #[]
  instanceTypes := #[]
  staticTypes := #[]
  resolved := #[]
  callSites := []
  init := .initialized
  statics := none
  mirror := none

def pool0 : Array CpInfo := pool [(5, u "<init>"), (0, u "()V"), (1, .class_ 10), (1, u "java/lang/Object")] 113

def k0m0 : Method := { name := "<init>", desc := "()V", sig := { parameters := [], returnType := none }, accessFlags := 1, code := none }
/-- java/lang/Object -/
def k0 : Class := { plain "java/lang/Object" none with
  accessFlags := 33
  interfaces := #[]
  cf := some (fileOf pool0 8 #[] #[{ accessFlags := 1, nameIndex := 5, descriptorIndex := 6, attributes := #[] }] 33 0 #[] #[])
  fields := #[]
  methods := #[k0m0]
  instanceTypes := #[]
  staticTypes := #[]
  resolved := Array.replicate 124 none
  statics := none }

def pool1 : Array CpInfo := pool [(2, .class_ 4), (1, u "java/lang/Object"), (0, u "<init>"), (0, u "()V"), (0, .methodref 8 9), (0, .class_ 10), (0, .nameAndType 11 12), (0, u "com/example/firm_json/firmjson/Utf8Decoder"), (0, u "length"), (0, u "(B)I"), (0, .class_ 14), (0, u "com/example/firm_json/firmjson/Utf8DecoderLengthPinLaw"), (2, u "law"), (0, u "(I)Z")] 3

def k1m0 : Method := { name := "<init>", desc := "()V", sig := { parameters := [], returnType := none }, accessFlags := 1, code := none }
def k1c1 : Code := { maxStack := 2, maxLocals := 4, code := code, exceptionTable := #[], attributes := #[] }
def k1m1 : Method := { name := "law", desc := "(I)Z", sig := { parameters := [.int], returnType := some .boolean }, accessFlags := 9, code := some k1c1 }
/-- com/example/firm_json/firmjson/Utf8DecoderLengthPinLaw -/
def k1 : Class := { plain "com/example/firm_json/firmjson/Utf8DecoderLengthPinLaw" (some 0) with
  accessFlags := 49
  interfaces := #[]
  cf := some (fileOf pool1 13 #[] #[{ accessFlags := 1, nameIndex := 5, descriptorIndex := 6, attributes := #[] }, { accessFlags := 9, nameIndex := 17, descriptorIndex := 18, attributes := #[] }] 49 2 #[] #[])
  fields := #[]
  methods := #[k1m0, k1m1]
  instanceTypes := #[]
  staticTypes := #[]
  resolved := Array.replicate 22 none
  statics := none }

def pool2 : Array CpInfo := pool [(2, .class_ 4), (1, u "java/lang/Object"), (0, u "<init>"), (0, u "()V"), (0, .class_ 8), (0, u "com/example/firm_json/firmjson/Utf8Decoder"), (2, u "length"), (0, u "(B)I"), (2, u "EIGHT"), (0, u "Ljava/lang/invoke/VarHandle;"), (15, u "m_chars"), (0, u "[C"), (31, .class_ 66), (0, u "com/example/firm_json/firmjson/Utf8Decoder$Utf8Writer"), (35, u "LONGEST"), (0, u "I"), (2, u "ONES"), (0, u "J"), (2, u "HIGH_BITS"), (0, u "CHUNK"), (1, u "LOW_BITS")] 17

def k2m0 : Method := { name := "<init>", desc := "()V", sig := { parameters := [], returnType := none }, accessFlags := 0, code := none }
def k2c1 : Code := { maxStack := 2, maxLocals := 3, code := prog_19_method_2_code, exceptionTable := #[], attributes := #[] }
def k2m1 : Method := { name := "length", desc := "(B)I", sig := { parameters := [.byte], returnType := some .int }, accessFlags := 8, code := some k2c1 }
/-- com/example/firm_json/firmjson/Utf8Decoder -/
def k2 : Class := { plain "com/example/firm_json/firmjson/Utf8Decoder" (some 0) with
  accessFlags := 48
  interfaces := #[]
  cf := some (fileOf pool2 7 #[.nestMembers #[65]] #[{ accessFlags := 0, nameIndex := 5, descriptorIndex := 6, attributes := #[] }, { accessFlags := 8, nameIndex := 11, descriptorIndex := 12, attributes := #[] }] 48 2 #[] #[{ accessFlags := 24, nameIndex := 102, descriptorIndex := 103, attributes := #[] }, { accessFlags := 24, nameIndex := 106, descriptorIndex := 107, attributes := #[] }, { accessFlags := 24, nameIndex := 110, descriptorIndex := 107, attributes := #[] }, { accessFlags := 26, nameIndex := 111, descriptorIndex := 103, attributes := #[] }, { accessFlags := 26, nameIndex := 113, descriptorIndex := 107, attributes := #[] }, { accessFlags := 26, nameIndex := 15, descriptorIndex := 16, attributes := #[] }, { accessFlags := 2, nameIndex := 32, descriptorIndex := 33, attributes := #[] }])
  fields := #[{ name := "LONGEST", type := .int, accessFlags := 24, slot := 0, constantValue := 0 }, { name := "ONES", type := .long, accessFlags := 24, slot := 1, constantValue := 0 }, { name := "HIGH_BITS", type := .long, accessFlags := 24, slot := 2, constantValue := 0 }, { name := "CHUNK", type := .int, accessFlags := 26, slot := 3, constantValue := 0 }, { name := "LOW_BITS", type := .long, accessFlags := 26, slot := 4, constantValue := 0 }, { name := "EIGHT", type := (.object "java/lang/invoke/VarHandle"), accessFlags := 26, slot := 5, constantValue := 0 }, { name := "m_chars", type := (.array .char), accessFlags := 2, slot := 0, constantValue := 0 }]
  methods := #[k2m0, k2m1]
  instanceTypes := #[(.array .char)]
  staticTypes := #[.int, .long, .long, .int, .long, (.object "java/lang/invoke/VarHandle")]
  resolved := Array.replicate 131 none
  statics := none }

def pool3 : Array CpInfo := pool [(1, u "java/lang/Cloneable"), (0, .class_ 1), (0, u "java/lang/Object"), (0, .class_ 3)] 3

/-- java/lang/Cloneable -/
def k3 : Class := { plain "java/lang/Cloneable" (some 0) with
  accessFlags := 1537
  interfaces := #[]
  cf := some (fileOf pool3 2 #[] #[] 1537 4 #[] #[])
  fields := #[]
  methods := #[]
  instanceTypes := #[]
  staticTypes := #[]
  resolved := Array.replicate 8 none
  statics := none }

def pool4 : Array CpInfo := pool [(1, u "java/io/Serializable"), (0, .class_ 1), (0, u "java/lang/Object"), (0, .class_ 3)] 3

/-- java/io/Serializable -/
def k4 : Class := { plain "java/io/Serializable" (some 0) with
  accessFlags := 1537
  interfaces := #[]
  cf := some (fileOf pool4 2 #[] #[] 1537 4 #[] #[])
  fields := #[]
  methods := #[]
  instanceTypes := #[]
  staticTypes := #[]
  resolved := Array.replicate 8 none
  statics := none }

/-- the primitive byte -/
def k5 : Class := { plain "byte" none with kind := .primitive 'B', accessFlags := 0x411 }
/-- [B -/
def k6 : Class := { plain "[B" (some 0) with kind := .array 5 .byte, interfaces := #[3, 4], accessFlags := 1041 }

/-- the primitive int -/
def k7 : Class := { plain "int" none with kind := .primitive 'I', accessFlags := 0x411 }
/-- [I -/
def k8 : Class := { plain "[I" (some 0) with kind := .array 7 .int, interfaces := #[3, 4], accessFlags := 1041 }

def heap : Heap := #[]
def classes : Array Class := #[k0, k1, k2, k3, k4, k5, k6, k7, k8]
def interned : List (Array UInt16 × Addr) := []
def slotsUsed : Nat := 0
def theMethod : MethodId := ⟨1, 1⟩
def args0 : Array Value := #[.int 5]
def aboutOver (below : List Frame) : State where
  vm := { classes := classes, interned := interned.toArray }
  heap := heap
  slotsUsed := slotsUsed
  threads := #[{ frames := .invoking theMethod args0 :: below }]
def below0 : List Frame := [.native { method := ⟨0, 0⟩, args := #[] }]
def about1 : State := aboutOver below0
def p0 : Program := .bare "" "" ""
def e0 : Env := launch0.env 0 0 0
theorem w_frames : about1.frames = Frame.invoking theMethod args0 :: below0 := rfl
set_option maxRecDepth 65536 in
theorem w_args : argsFit about1.vm theMethod args0 = true := by decide +kernel
set_option maxRecDepth 65536 in
theorem w_heap : heapFits about1 = true := by decide +kernel
set_option maxRecDepth 65536 in
theorem w_runnable : about1.curStatus? = some .runnable := by decide +kernel
set_option maxRecDepth 65536 in
theorem w_alone : about1.alone = true := by decide +kernel
set_option maxRecDepth 65536 in
theorem w_named : about1.methodNamed? x = some theMethod := by decide +kernel
set_option maxRecDepth 65536 in
theorem w_hears : about1.hears theMethod below0 = true := by decide +kernel
set_option maxRecDepth 65536 in
theorem w_ripe : about1.ripe theMethod args0 below0 = true := by decide +kernel
theorem w_running : about1.status = .running := rfl
set_option maxRecDepth 65536 in
theorem w_room : about1.hasRoom e0.platform room_1 = true :=
  launch0.hasRoom_least _ room_1 (by decide +kernel) (by decide +kernel) (by decide +kernel) (by decide +kernel) (by decide +kernel) (by decide +kernel)
theorem allAtoms_all (ts : List Jvm.Cond) (a : Array Jvm.Value) (st : Jvm.State) : (allAtoms ts).before a st = ts.all (fun c => c.before a st) := by
  induction ts with
  | nil => rfl
  | cons c t ih =>
    show (Jvm.Cond.and c (allAtoms t)).before a st = _
    rw [Jvm.Cond.before_and, ih, List.all_cons]
def words1 : List Jvm.Cond := Jvm.Cond.code x code maxLocals ret :: tables_1
/-- a 'code' word, met by the world's own term for the bytes: nothing is compared byte by byte -/
theorem code_word {y : MethodName} {bytes : ByteArray} {mx : Nat} {rt : Option FieldType} {a : Array Value} {s : State} {m : MethodId} {meth : Method} {c : Code} (h1 : s.methodNamed? y = some m) (h2 : s.vm.method? m = some meth) (h3 : meth.code = some c) (h4 : c.code = bytes)
    (h5 : (c.maxLocals == mx && c.exceptionTable.isEmpty && decide (c.maxStack ≤ mostOperands) && decide (meth.sig.returnType = rt) && !meth.locks && decide (parseMethodDescriptor y.desc = some meth.sig)) = true) : (Jvm.Cond.code y bytes mx rt).before a s = true := by
  simp only [Bool.and_eq_true, beq_iff_eq, Bool.not_eq_true', decide_eq_true_eq] at h5
  obtain ⟨⟨⟨⟨⟨g1, g2⟩, g3⟩, g4⟩, g5⟩, g6⟩ := h5
  simp [Cond.before, Cond.holds, Cond.value, h1, h2, h3, h4, g1, g2, g3, g4, g5, g6]
def isCode : Jvm.Cond → Bool
  | .code _ _ _ _ => true
  | _ => false
theorem all_split {L : List Jvm.Cond} {P : Jvm.Cond → Bool} (h1 : L.all (fun c => isCode c || P c) = true) (h2 : ∀ c ∈ L.filter isCode, P c = true) : L.all P = true := by
  refine List.all_eq_true.mpr fun c hc => ?_
  have h := List.all_eq_true.mp h1 c hc
  rcases Bool.eq_false_or_eq_true (isCode c) with hi | hi
  · exact h2 c (List.mem_filter.mpr ⟨hc, hi⟩)
  · simpa [hi] using h
set_option maxRecDepth 65536 in
theorem w_c0 : (Jvm.Cond.code x code maxLocals ret).before args0 about1 = true := code_word (m := ⟨1, 1⟩) (meth := k1m1) (c := k1c1) (by decide +kernel) rfl rfl rfl (by decide +kernel)
set_option maxRecDepth 65536 in
theorem w_c1 : (Jvm.Cond.code ({ cls := "com/example/firm_json/firmjson/Utf8Decoder", name := "length", desc := "(B)I" } : Jvm.MethodName) prog_19_method_2_code (3 : Nat) (Option.some Jvm.ClassFile.FieldType.int)).before args0 about1 = true := code_word (m := ⟨2, 1⟩) (meth := k2m1) (c := k2c1) (by decide +kernel) rfl rfl rfl (by decide +kernel)
def codes1 : List Jvm.Cond := [Jvm.Cond.code x code maxLocals ret, Jvm.Cond.code ({ cls := "com/example/firm_json/firmjson/Utf8Decoder", name := "length", desc := "(B)I" } : Jvm.MethodName) prog_19_method_2_code (3 : Nat) (Option.some Jvm.ClassFile.FieldType.int)]
set_option maxRecDepth 65536 in
theorem codes_eq : words1.filter isCode = codes1 := rfl
theorem w_codes : ∀ c ∈ words1.filter isCode, c.before args0 about1 = true := by
  rw [codes_eq]
  intro c hc
  simp only [codes1, List.mem_cons, List.not_mem_nil, or_false] at hc
  rcases hc with rfl | rfl
  · exact w_c0
  · exact w_c1
set_option maxRecDepth 65536 in
theorem w_t1 : words1.all (fun c => isCode c || c.before args0 about1) = true := by decide +kernel
theorem w_tables : (allAtoms (Jvm.Cond.code x code maxLocals ret :: tables_1)).before args0 about1 = true := by
  rw [allAtoms_all]
  show words1.all (fun c => c.before args0 about1) = true
  refine all_split ?_ w_codes
  rw [w_t1]
set_option maxRecDepth 65536 in
theorem w_case : (Jvm.Cond.and given_1 narrow_1).before args0 about1 = true := by decide +kernel
theorem w_applies : (headSpec (Jvm.Cond.code x code maxLocals ret :: tables_1) room_1).applies x e0.platform about1 = true :=
  (Spec.applies_iff w_frames).mpr ⟨w_running, w_runnable, w_alone, w_named, w_hears, w_ripe, w_room, w_tables⟩
theorem atStart : AtStart classFile x code maxLocals ret World_1 tables_1 room_1 Calls_1 rest_1 Pre_1 launch0 p0 e0 about1 theMethod args0 below0 :=
  ⟨lists_1, trivial, launch0.admits_env _ _ _, launch0.least_env, fairChoices_fair.cas, fairChoices_fair.clock, w_frames, w_args, w_heap, w_applies, trivial, trivial, w_case⟩
end start1
theorem witness_1 : WitnessClaimed_1 := ⟨start1.p0, start1.e0, start1.about1, start1.theMethod, start1.args0, start1.below0, start1.atStart⟩
end Jvm.Pilot.@@N@@
