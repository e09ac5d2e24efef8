import JvmDerived
import JvmDerived.Pilot.@@N@@Statement
import JvmDerived.Pilot.@@N@@Code
set_option linter.unusedVariables false
set_option linter.unusedSimpArgs false
namespace Jvm.Pilot.@@N@@
open Jvm Jvm.ClassFile Sem Op Lib Jvm.Free Jvm.Stand Jvm.LawKit Jvm.RoadKit Bundle Jvm.Pilot.@@N@@.Jvm.D
abbrev oU : Slot := .unset
abbrev oS : Slot := .second
abbrev oN : Slot := .val .null
abbrev oI (x : Int32) : Slot := .val (.int x)
abbrev oJ (x : Int64) : Slot := .val (.long x)
abbrev oR (a : Addr) : Slot := .val (.ref a)
section Own
variable {p : Program} {l : Launch} {e : Env} {R : Room} {s : State} {m : MethodId} {args : Array Value} {below : List Frame} {meth : Method} {c : Code} {T : State} {locs : List Loc} {cells slots : Nat} {Q : Option Value → Heap → List Loc → Prop} {kc ks : Nat} {Z : State} {a0 : Array Value} {h : Heap}
/-- from the state st the body comes to its end, and Q holds there -/
def own_Fin (p : Program) (e : Env) (below : List Frame) (s : State) (Q : Option Value → Heap → List Loc → Prop) (kc ks : Nat) (st : State) : Prop :=
  ∃ s₂ o, Steps p.tables e below st s₂ ∧ s₂.status = .running ∧ Ended s₂ below o ∧ ∃ v L, o = .returned v ∧ Q v s₂.heap L ∧ FrameEnd s o s₂ L kc ks
abbrev own_Go (X : Stand p l e R s m args below meth c T locs cells slots) (Q : Option Value → Heap → List Loc → Prop) (kc ks : Nat) (pc : Nat) (Ls : Array Slot) (S : List Value) : Prop := own_Fin p e below s Q kc ks (T.setTop (mkF m pc Ls S))
theorem own_st {a b : State} (hst : ∀ t, Steps p.tables e below b t → Steps p.tables e below a t) (k : own_Fin p e below s Q kc ks b) : own_Fin p e below s Q kc ks a := by
  obtain ⟨s₂, o, h1, r⟩ := k
  exact ⟨s₂, o, hst _ h1, r⟩
theorem own_cast {g g' : JFrame} (q : g = g') (k : own_Fin p e below s Q kc ks (T.setTop g')) : own_Fin p e below s Q kc ks (T.setTop g) := q ▸ k
theorem own_end (X : Stand p l e R s m args below meth c T locs cells slots) {v : Option Value} {a : State} (hv : meth.sig.returnType = none → v = none) (hlocks : meth.locks = false) (eT : T.heap = h)
    (hs : ∀ fs, (∀ (f : JFrame) (acts : List Action), f.method = m → f.locked = none → f.entered = [] → (doReturn e (T.setTop f) acts v).1 = T.setFrames fs) → Steps p.tables e below a (T.setFrames fs))
    (hc : cells ≤ kc) (hl : slots ≤ ks) (hq : Q v h locs) : own_Fin p e below s Q kc ks a := by
  obtain ⟨fs, hr, hrun, hended, hW, hsame⟩ := X.leave hv hlocks
  exact ⟨_, _, hs fs hr, hrun, hended, _, _, rfl, by show Q v T.heap locs; rw [eT]; exact hq, ⟨_, rfl⟩, hW, hsame.mono hc hl⟩
theorem own_retV (X : Stand p l e R s m args below meth c T locs cells slots) (hx : p.tables.exec = Jvm.exec) (hret : meth.sig.returnType = none) (hlocks : meth.locks = false) (eT : T.heap = h) {pc : Nat} {Ls : Array Slot} (hd : decode c.code pc = .ok (.return_, 1)) (hc : cells ≤ kc) (hl : slots ≤ ks) (hq : Q none h locs) :
    own_Fin p e below s Q kc ks (T.setTop (mkF m pc Ls [])) := own_end X (fun _ => rfl) hlocks eT (fun _ hr => X.returnOut hx hret hd hr) hc hl hq
theorem own_retN (X : Stand p l e R s m args below meth c T locs cells slots) (hx : p.tables.exec = Jvm.exec) {t : FieldType} (hret : meth.sig.returnType = some t) (ht : t = .boolean ∨ t = .byte ∨ t = .char ∨ t = .short) (hlocks : meth.locks = false) (eT : T.heap = h) {pc : Nat} {Ls : Array Slot} {z : Int32} {rest : List Value} (hd : decode c.code pc = .ok (.ireturn, 1)) (hc : cells ≤ kc) (hl : slots ≤ ks) (hq : Q (some (.int (nar t z))) h locs) :
    own_Fin p e below s Q kc ks (T.setTop (mkF m pc Ls (.int z :: rest))) := own_end X (fun h => by rw [hret] at h; cases h) hlocks eT (fun _ hr => retN X hx hret ht hd hr) hc hl hq
theorem own_retI (X : Stand p l e R s m args below meth c T locs cells slots) (hx : p.tables.exec = Jvm.exec) (hret : meth.sig.returnType = some .int) (hlocks : meth.locks = false) (eT : T.heap = h) {pc : Nat} {Ls : Array Slot} {z : Int32} {rest : List Value} (hd : decode c.code pc = .ok (.ireturn, 1)) (hc : cells ≤ kc) (hl : slots ≤ ks) (hq : Q (some (.int z)) h locs) :
    own_Fin p e below s Q kc ks (T.setTop (mkF m pc Ls (.int z :: rest))) := own_end X (fun h => by rw [hret] at h; cases h) hlocks eT (fun _ hr => retOut X hx hret rfl (Or.inl ⟨rfl, Or.inl rfl, _, rfl⟩) hd hr) hc hl hq
theorem own_retJ (X : Stand p l e R s m args below meth c T locs cells slots) (hx : p.tables.exec = Jvm.exec) (hret : meth.sig.returnType = some .long) (hlocks : meth.locks = false) (eT : T.heap = h) {pc : Nat} {Ls : Array Slot} {z : Int64} {rest : List Value} (hd : decode c.code pc = .ok (.lreturn, 1)) (hc : cells ≤ kc) (hl : slots ≤ ks) (hq : Q (some (.long z)) h locs) :
    own_Fin p e below s Q kc ks (T.setTop (mkF m pc Ls (.long z :: rest))) := own_end X (fun h => by rw [hret] at h; cases h) hlocks eT (fun _ hr => retOut X hx hret rfl (Or.inr (Or.inl ⟨rfl, rfl, _, rfl⟩)) hd hr) hc hl hq
theorem own_retA (X : Stand p l e R s m args below meth c T locs cells slots) (hx : p.tables.exec = Jvm.exec) {t : FieldType} (hret : meth.sig.returnType = some t) (ht : t.isReference = true) (hlocks : meth.locks = false) (eT : T.heap = h) {pc : Nat} {Ls : Array Slot} {a : Addr} {rest : List Value} (hd : decode c.code pc = .ok (.areturn, 1)) (hc : cells ≤ kc) (hl : slots ≤ ks) (hq : Q (some (.ref a)) h locs) :
    own_Fin p e below s Q kc ks (T.setTop (mkF m pc Ls (.ref a :: rest))) := own_end X (fun h => by rw [hret] at h; cases h) hlocks eT (fun _ hr => retOut X hx hret (by cases t <;> first | rfl | cases ht) (Or.inr (Or.inr (Or.inr (Or.inr ⟨rfl, ht, rfl⟩)))) hd hr) hc hl hq
theorem own_nar1 : nar .boolean 1 = 1 := by decide
theorem own_nar0 : nar .boolean 0 = 0 := by decide
theorem own_lrem {g : JFrame} {target : State} (X : Stand p l e R s m args below meth c T locs cells slots) (hx : p.tables.exec = Jvm.exec) (hg : g.method = m) {x y : Int64} {rest : List Value} (hd : decode c.code g.pc = .ok (.lrem, 1)) (hs : g.stack = .long y :: .long x :: rest) (hy : y ≠ 0)
    (hr : Steps p.tables e below (T.setTop { g with pc := g.pc + 1, stack := .long (x % y) :: rest }) target) : Steps p.tables e below (T.setTop g) target := by
  have q : x - x / y * y = x % y := lrem_mod x y
  exact XS.lrem X.here hx hg hd hs hy (by rw [q]; exact hr)
/-! the calls -/
variable {y z : MethodName} {bytes : ByteArray} {maxL : Nat} {ret : Option FieldType} {rm : Room} {W : Nat} {as' : Array Value} {Qc : Option Value → Heap → List Loc → Prop} {own C : String} {index : Nat}
theorem own_callS (X : Stand p l e R s m args below meth c T locs cells slots) (hx : p.tables.exec = Jvm.exec) (hZ : Z.Warmed39 s.vm) (hown : s.vm.findClass own = some m.cls)
    (wl : (Cond.methodLink own index y).before a0 Z = true) (ws : (Cond.static y).before a0 Z = true) (wz : (Cond.initialized y.cls).before a0 Z = true) (wc : (Cond.code y bytes maxL ret).before a0 Z = true)
    (hy : y.cls ≠ "java/lang/invoke/MethodHandle" ∧ y.cls ≠ "java/lang/invoke/VarHandle")
    (hM : MetFree l y (head1 [Cond.code y bytes maxL ret] rm) (fun a U => a = as' ∧ Z.Warmed39 U.vm ∧ U.heap = h) (fun _ _ _ _ _ => True) (fun _ U o U' => ∃ v L, o = .returned v ∧ Qc v U'.heap L ∧ FrameEnd U o U' L rm.cells rm.slots))
    (hf : rm.frames + 1 ≤ R.frames) (hl : W + (maxL + 11) + rm.locals ≤ R.locals) {pc : Nat} {Ls : Array Slot} {S : List Value} (hsize : Ls.size = c.maxLocals) (argsL rest : List Value)
    (hlen : ∀ sig, parseMethodDescriptor y.desc = some sig → argsL.length = sig.parameters.length) (hS : S = argsL.reverse ++ rest) (ha : argsL.toArray = as') (hW : (rest.map fun v => v.category).sum ≤ W)
    (hd : decode c.code pc = .ok (.invokestatic index, 3)) (eT : T.heap = h) (hcl : cells + rm.cells ≤ R.cells) (hsl : slots + rm.slots ≤ R.slots)
    (k : ∀ (v : Option Value) (T' : State) (L' : List Loc) (X' : Stand p l e R s m args below meth c T' (locs ++ L') (cells + rm.cells) (slots + rm.slots)), Qc v T'.heap L' → own_Fin p e below s Q kc ks (T'.setTop (mkF m (pc + 3) Ls (v.toList ++ rest)))) :
    own_Fin p e below s Q kc ks (T.setTop (mkF m pc Ls S)) := by
  subst hS
  obtain ⟨v, _, ⟨T', L1, k1, n1⟩, -, X', ⟨L', hQ, l1, y1, z1⟩, st⟩ := Jvm.LawKit.callS X hx (y := y) hown (mvT hZ wl) (mvT hZ ws) (mvT hZ wz) (mvT hZ wc) hy (backOf (W := W) hM hZ wc wz hf hl) (g := mkF m pc Ls (argsL.reverse ++ rest)) rfl hsize (argsL := argsL) (rest := rest) hlen rfl (by show 2 * 0 + _ ≤ _; omega) hd (fun _ _ => ⟨ha, eT, hcl, hsl⟩)
  dsimp only [Pt.U, Pt.locs, Pt.cells, Pt.slots] at X' l1 y1 z1 st hQ
  subst l1 y1 z1
  exact own_st (fun t => st t) (k v T' L' X' hQ)
theorem own_callI (X : Stand p l e R s m args below meth c T locs cells slots) (hx : p.tables.exec = Jvm.exec) (hZ : Z.Warmed39 s.vm) (hown : s.vm.findClass own = some m.cls)
    (wl : (Cond.methodLink own index y).before a0 Z = true) (ws : (Cond.instanceMethod y).before a0 Z = true) (wz : (Cond.initialized y.cls).before a0 Z = true) (wc : (Cond.code y bytes maxL none).before a0 Z = true)
    (hn : y.name = "<init>") (hy : y.cls ≠ "java/lang/invoke/MethodHandle" ∧ y.cls ≠ "java/lang/invoke/VarHandle")
    (hM : MetFree l y (head1 [Cond.code y bytes maxL none] rm) (fun a U => a = as' ∧ Z.Warmed39 U.vm ∧ U.heap = h) (fun _ _ _ _ _ => True) (fun _ U o U' => ∃ v L, o = .returned v ∧ Qc v U'.heap L ∧ FrameEnd U o U' L rm.cells rm.slots))
    (hf : rm.frames + 1 ≤ R.frames) (hl : W + (maxL + 11) + rm.locals ≤ R.locals) {pc : Nat} {Ls : Array Slot} {S : List Value} (hsize : Ls.size = c.maxLocals) (a : Addr) (argsL rest : List Value)
    (hlen : ∀ sig, parseMethodDescriptor y.desc = some sig → argsL.length = sig.parameters.length) (hS : S = argsL.reverse ++ .ref a :: rest) (ha : (Value.ref a :: argsL).toArray = as') (hW : (rest.map fun v => v.category).sum ≤ W)
    (hd : decode c.code pc = .ok (.invokespecial index, 3)) (eT : T.heap = h) (hcl : cells + rm.cells ≤ R.cells) (hsl : slots + rm.slots ≤ R.slots)
    (k : ∀ (v : Option Value) (T' : State) (L' : List Loc) (X' : Stand p l e R s m args below meth c T' (locs ++ L') (cells + rm.cells) (slots + rm.slots)), Qc v T'.heap L' → own_Fin p e below s Q kc ks (T'.setTop (mkF m (pc + 3) Ls (v.toList ++ rest)))) :
    own_Fin p e below s Q kc ks (T.setTop (mkF m pc Ls S)) := by
  subst hS
  obtain ⟨v, _, ⟨T', L1, k1, n1⟩, -, X', ⟨L', hQ, l1, y1, z1⟩, st⟩ := X.specialBack hx (y := y) hn hown (mvT hZ wl) (mvT hZ ws) (mvT hZ wc) hy (backOf (W := W) hM hZ wc wz hf hl) (g := mkF m pc Ls (argsL.reverse ++ .ref a :: rest)) rfl hsize (Steps.refl _) (a := a) (argsL := argsL) (rest := rest) hlen rfl (by show 2 * 0 + _ ≤ _; omega) hd (fun _ _ => ⟨ha, eT, hcl, hsl⟩)
  dsimp only [Pt.U, Pt.locs, Pt.cells, Pt.slots] at X' l1 y1 z1 st hQ
  subst l1 y1 z1
  exact own_st (fun t => st.trans) (k v T' L' X' hQ)
theorem own_callV (X : Stand p l e R s m args below meth c T locs cells slots) (hx : p.tables.exec = Jvm.exec) (hZ : Z.Warmed39 s.vm) (hown : s.vm.findClass own = some m.cls)
    (wl : (Cond.methodLink own index y).before a0 Z = true) (wd : (Cond.declares y).before a0 Z = true) (wsel : (Cond.selects C y y).before a0 Z = true) (ws : (Cond.instanceMethod y).before a0 Z = true) (wz : (Cond.initialized y.cls).before a0 Z = true) (wc : (Cond.code y bytes maxL ret).before a0 Z = true)
    (hy : y.cls ≠ "java/lang/invoke/MethodHandle" ∧ y.cls ≠ "java/lang/invoke/VarHandle")
    (hM : MetFree l y (head1 [Cond.code y bytes maxL ret] rm) (fun a U => a = as' ∧ Z.Warmed39 U.vm ∧ U.heap = h) (fun _ _ _ _ _ => True) (fun _ U o U' => ∃ v L, o = .returned v ∧ Qc v U'.heap L ∧ FrameEnd U o U' L rm.cells rm.slots))
    (hf : rm.frames + 1 ≤ R.frames) (hl : W + (maxL + 11) + rm.locals ≤ R.locals) {pc : Nat} {Ls : Array Slot} {S : List Value} (hsize : Ls.size = c.maxLocals) (a : Addr) (argsL rest : List Value)
    (hlen : ∀ sig, parseMethodDescriptor y.desc = some sig → argsL.length = sig.parameters.length) (hS : S = argsL.reverse ++ .ref a :: rest) (ha : (Value.ref a :: argsL).toArray = as') (hW : (rest.map fun v => v.category).sum ≤ W)
    (hd : decode c.code pc = .ok (.invokevirtual index, 3)) (eT : T.heap = h) (EA : Exa Z h a C) (hcl : cells + rm.cells ≤ R.cells) (hsl : slots + rm.slots ≤ R.slots)
    (k : ∀ (v : Option Value) (T' : State) (L' : List Loc) (X' : Stand p l e R s m args below meth c T' (locs ++ L') (cells + rm.cells) (slots + rm.slots)), Qc v T'.heap L' → own_Fin p e below s Q kc ks (T'.setTop (mkF m (pc + 3) Ls (v.toList ++ rest)))) :
    own_Fin p e below s Q kc ks (T.setTop (mkF m pc Ls S)) := by
  subst hS
  obtain ⟨cq, kq, q1, q2, q3⟩ := isOf hZ eT EA
  obtain ⟨v, _, ⟨T', L1, k1, n1⟩, -, X', ⟨L', hQ, l1, y1, z1⟩, st⟩ := X.virtualBack hx (y := y) (z := y) hown (mvT hZ wl) (mvT hZ wd) (notFace_of_selects (args := #[]) (mvT hZ wsel)) (mvT hZ wsel) (mvT hZ ws) hy (backOf (W := W) hM hZ wc wz hf hl) q1 q3 (g := mkF m pc Ls (argsL.reverse ++ .ref a :: rest)) rfl hsize (Steps.refl _) (argsL := argsL) (rest := rest) hlen rfl (by show 2 * 0 + _ ≤ _; omega) hd (fun _ _ => ⟨ha, eT, hcl, hsl⟩)
  dsimp only [Pt.U, Pt.locs, Pt.cells, Pt.slots] at X' l1 y1 z1 st hQ
  subst l1 y1 z1
  exact own_st (fun t => st.trans) (k v T' L' X' hQ)
/-! arrays -/
variable {a : Addr} {kA : ClassId} {n j x : Int32} {vs : List Value} {dv : Value}
theorem own_stI (X : Stand p l e R s m args below meth c T locs cells slots) (hx : p.tables.exec = Jvm.exec) (hZ : Z.Warmed39 s.vm) (eT : T.heap = h) (V : Arv Z h a kA .int n vs dv) (q : ¬ j < 0 ∧ j < n) (hi : j.toNatClampNeg < vs.length) {g : JFrame} (hg : g.method = m) {rest : List Value} (hs : g.stack = .int x :: .int j :: .ref a :: rest) (hd : decode c.code g.pc = .ok (.iastore, 1)) :
    ∃ T' h', Stand p l e R s m args below meth c T' (locs ++ [⟨a, j.toNatClampNeg⟩]) cells slots ∧ T'.heap = h' ∧ Wr h h' a j.toNatClampNeg (.int x) ∧ Arv Z h' a kA .int n (vs.set j.toNatClampNeg (.int x)) dv ∧ ∀ target, Steps p.tables e below (T'.setTop { g with pc := g.pc + 1, stack := rest }) target → Steps p.tables e below (T.setTop g) target := by
  obtain ⟨cl, Ar, q1, S1, N1, H1, G1⟩ := V
  obtain ⟨T', h', X', e', W', st⟩ := stI X hx hZ eT Ar (inb_of S1 q) hg hs hd
  exact ⟨T', h', X', e', W', Arv.set Ar q1 S1 N1 H1 G1 rfl W' _ rfl hi, st⟩
theorem own_stB (X : Stand p l e R s m args below meth c T locs cells slots) (hx : p.tables.exec = Jvm.exec) (hZ : Z.Warmed39 s.vm) (eT : T.heap = h) (V : Arv Z h a kA .byte n vs dv) (q : ¬ j < 0 ∧ j < n) (hi : j.toNatClampNeg < vs.length) {g : JFrame} (hg : g.method = m) {rest : List Value} (hs : g.stack = .int x :: .int j :: .ref a :: rest) (hd : decode c.code g.pc = .ok (.bastore, 1)) :
    ∃ T' h', Stand p l e R s m args below meth c T' (locs ++ [⟨a, j.toNatClampNeg⟩]) cells slots ∧ T'.heap = h' ∧ Wr h h' a j.toNatClampNeg (.int (nar .byte x)) ∧ Arv Z h' a kA .byte n (vs.set j.toNatClampNeg (.int x.toInt8.toInt32)) dv ∧ ∀ target, Steps p.tables e below (T'.setTop { g with pc := g.pc + 1, stack := rest }) target → Steps p.tables e below (T.setTop g) target := by
  obtain ⟨cl, Ar, q1, S1, N1, H1, G1⟩ := V
  obtain ⟨T', h', X', e', W', st⟩ := stB X hx hZ eT Ar (inb_of S1 q) hg hs hd
  exact ⟨T', h', X', e', W', Arv.set Ar q1 S1 N1 H1 G1 (fits_nar_byte x) W' _ rfl hi, st⟩
theorem own_stJ {x : Int64} (X : Stand p l e R s m args below meth c T locs cells slots) (hx : p.tables.exec = Jvm.exec) (hZ : Z.Warmed39 s.vm) (eT : T.heap = h) (V : Arv Z h a kA .long n vs dv) (q : ¬ j < 0 ∧ j < n) (hi : j.toNatClampNeg < vs.length) {g : JFrame} (hg : g.method = m) {rest : List Value} (hs : g.stack = .long x :: .int j :: .ref a :: rest) (hd : decode c.code g.pc = .ok (.lastore, 1)) :
    ∃ T' h', Stand p l e R s m args below meth c T' (locs ++ [⟨a, j.toNatClampNeg⟩]) cells slots ∧ T'.heap = h' ∧ Wr h h' a j.toNatClampNeg (.long x) ∧ Arv Z h' a kA .long n (vs.set j.toNatClampNeg (.long x)) dv ∧ ∀ target, Steps p.tables e below (T'.setTop { g with pc := g.pc + 1, stack := rest }) target → Steps p.tables e below (T.setTop g) target := by
  obtain ⟨cl, Ar, q1, S1, N1, H1, G1⟩ := V
  obtain ⟨T', h', X', e', W', st⟩ := stJ X hx hZ eT Ar (inb_of S1 q) hg hs hd
  exact ⟨T', h', X', e', W', Arv.set Ar q1 S1 N1 H1 G1 rfl W' _ rfl hi, st⟩
theorem own_ldI (X : Stand p l e R s m args below meth c T locs cells slots) (hx : p.tables.exec = Jvm.exec) (hZ : Z.Warmed39 s.vm) (eT : T.heap = h) (V : Arv Z h a kA .int n vs dv) (q : ¬ j < 0 ∧ j < n) {v : Value} (hv : vs.getD j.toNatClampNeg dv = v) {g : JFrame} (hg : g.method = m) {rest : List Value} (hs : g.stack = .int j :: .ref a :: rest) (hd : decode c.code g.pc = .ok (.iaload, 1)) :
    ∀ target, Steps p.tables e below (T.setTop { g with pc := g.pc + 1, stack := v :: rest }) target → Steps p.tables e below (T.setTop g) target := by
  obtain ⟨cl, Ar, q1, S1, N1, H1, G1⟩ := V
  exact X.iaload hx (by rw [eT]; exact Ar.1) (State.isArrayOf_alike hZ.alike Ar.2.1) Ar.2.2 (inb_of S1 q) (H1.at (inb_of S1 q) hv) hg hs hd
theorem own_ldB (X : Stand p l e R s m args below meth c T locs cells slots) (hx : p.tables.exec = Jvm.exec) (hZ : Z.Warmed39 s.vm) (eT : T.heap = h) (V : Arv Z h a kA .byte n vs dv) (q : ¬ j < 0 ∧ j < n) {v : Value} (hv : vs.getD j.toNatClampNeg dv = v) {g : JFrame} (hg : g.method = m) {rest : List Value} (hs : g.stack = .int j :: .ref a :: rest) (hd : decode c.code g.pc = .ok (.baload, 1)) :
    ∀ target, Steps p.tables e below (T.setTop { g with pc := g.pc + 1, stack := v :: rest }) target → Steps p.tables e below (T.setTop g) target := by
  obtain ⟨cl, Ar, q1, S1, N1, H1, G1⟩ := V
  exact X.baloadBytes hx (by rw [eT]; exact Ar.1) (State.isArrayOf_alike hZ.alike Ar.2.1) Ar.2.2 (inb_of S1 q) (H1.at (inb_of S1 q) hv) hg hs hd
theorem own_ldJ (X : Stand p l e R s m args below meth c T locs cells slots) (hx : p.tables.exec = Jvm.exec) (hZ : Z.Warmed39 s.vm) (eT : T.heap = h) (V : Arv Z h a kA .long n vs dv) (q : ¬ j < 0 ∧ j < n) {v : Value} (hv : vs.getD j.toNatClampNeg dv = v) {g : JFrame} (hg : g.method = m) {rest : List Value} (hs : g.stack = .int j :: .ref a :: rest) (hd : decode c.code g.pc = .ok (.laload, 1)) :
    ∀ target, Steps p.tables e below (T.setTop { g with pc := g.pc + 1, stack := v :: rest }) target → Steps p.tables e below (T.setTop g) target := by
  obtain ⟨cl, Ar, q1, S1, N1, H1, G1⟩ := V
  exact X.laload hx (by rw [eT]; exact Ar.1) (State.isArrayOf_alike hZ.alike Ar.2.1) Ar.2.2 (inb_of S1 q) (H1.at (inb_of S1 q) hv) hg hs hd
theorem own_len {ty : FieldType} (X : Stand p l e R s m args below meth c T locs cells slots) (hx : p.tables.exec = Jvm.exec) (hZ : Z.Warmed39 s.vm) (eT : T.heap = h) (V : Arv Z h a kA ty n vs dv) {g : JFrame} (hg : g.method = m) {rest : List Value} (hs : g.stack = .ref a :: rest) (hd : decode c.code g.pc = .ok (.arraylength, 1)) :
    ∀ target, Steps p.tables e below (T.setTop { g with pc := g.pc + 1, stack := .int n :: rest }) target → Steps p.tables e below (T.setTop g) target := by
  obtain ⟨cl, Ar, q1, S1, N1, H1, G1⟩ := V
  intro t k
  refine X.arraylength hx (by rw [eT]; exact Ar.1) (State.isArrayOf_alike hZ.alike Ar.2.1) hg hs hd t ?_
  rw [len_of S1 N1]; exact k
end Own

def own_keeps (x : Int64) : Int32 := if x < 131072 then 0 else if 33554432 < x then 0 else 1
def own_ref (x : Int64) : Int32 := if x - 131072 < 0 then 0 else if 33423360 < x - 131072 then 0 else 1
theorem own_eq (x : Int64) : own_keeps x = own_ref x := by
  have h := c_lsub x 131072
  have h1 := rng64 x
  have h2 := rng64 (x - 131072)
  unfold own_keeps own_ref
  simp only [Int64.lt_iff_toInt_lt]
  have e1 : (131072 : Int64).toInt = 131072 := by decide
  have e2 : (33554432 : Int64).toInt = 33554432 := by decide
  have e3 : (33423360 : Int64).toInt = 33423360 := by decide
  have e4 : (0 : Int64).toInt = 0 := by decide
  rw [e1] at h
  rw [e1, e2, e3, e4]
  split
  · split
    · rfl
    · split
      · rfl
      · exfalso; omega
  · split
    · split
      · rfl
      · split
        · rfl
        · exfalso; omega
    · split
      · exfalso; omega
      · split
        · exfalso; omega
        · rfl
theorem d1_0 : decode prog_77_method_2_code 0 = .ok (.lload_n 0, 1) := by decide +kernel
theorem d1_1 : decode prog_77_method_2_code 1 = .ok (.ldc2_w 16, 3) := by decide +kernel
theorem d1_4 : decode prog_77_method_2_code 4 = .ok (.lcmp, 1) := by decide +kernel
theorem d1_5 : decode prog_77_method_2_code 5 = .ok (.ifCond .lt 15, 3) := by decide +kernel
theorem d1_8 : decode prog_77_method_2_code 8 = .ok (.lload_n 0, 1) := by decide +kernel
theorem d1_9 : decode prog_77_method_2_code 9 = .ok (.ldc2_w 18, 3) := by decide +kernel
theorem d1_12 : decode prog_77_method_2_code 12 = .ok (.lcmp, 1) := by decide +kernel
theorem d1_13 : decode prog_77_method_2_code 13 = .ok (.ifCond .gt 7, 3) := by decide +kernel
theorem d1_16 : decode prog_77_method_2_code 16 = .ok (.iconst 1, 1) := by decide +kernel
theorem d1_17 : decode prog_77_method_2_code 17 = .ok (.goto 4, 3) := by decide +kernel
theorem d1_20 : decode prog_77_method_2_code 20 = .ok (.iconst 0, 1) := by decide +kernel
theorem d1_21 : decode prog_77_method_2_code 21 = .ok (.ireturn, 1) := by decide +kernel
theorem pn_1 : plainName "com/example/linkspan/linkspan/memory/KeptBlocks" = true := by first | (simp [plainName, overriddenIn]; done) | decide +kernel
theorem ef_1 (m : MethodId) (q0 : Int64) : entryFrame m #[(.long q0)] 2 = mkF m 0 #[.val (.long q0), .second] [] := by first | (simp [entryFrame, mkF, argsToLocals, Value.category]; done) | rfl
def Q1 (Z : State) (q0 : Int64)  (h0 : Heap) (n0 : Nat) (v : Option Value) (h : Heap) (L : List Loc) : Prop := v = some (.int (own_keeps q0)) ∧ Fr n0 L ∧ h = h0
set_option maxRecDepth 65536 in
set_option maxHeartbeats 40000000 in
theorem rm1 (l : Launch) (Z : State) (a0 : Array Value) (hw : ∀ d ∈ tables_1, d.before a0 Z = true) (ws : List Jvm.Cond) (q0 : Int64)  (h0 : Heap) (n0 : Nat) (Z0 : n0 ≤ h0.size)  :
    MetFree l (⟨"com/example/linkspan/linkspan/memory/KeptBlocks", "keeps", "(J)Z"⟩ : MethodName) (head1 (Jvm.Cond.code (⟨"com/example/linkspan/linkspan/memory/KeptBlocks", "keeps", "(J)Z"⟩ : MethodName) prog_77_method_2_code 2 (some .boolean) :: ws) ({ frames := 0, cells := 0, slots := 0, locals := 0 } : Room)) (fun a U => a = #[(.long q0)] ∧ Z.Warmed39 U.vm ∧ U.heap = h0) (fun _ _ _ _ _ => True) (fun _ U o U' => ∃ v L, o = .returned v ∧ Q1 Z q0 h0 n0 v U'.heap L ∧ FrameEnd U o U' L ({ frames := 0, cells := 0, slots := 0, locals := 0 } : Room).cells ({ frames := 0, cells := 0, slots := 0, locals := 0 } : Room).slots) := by
  refine MetFree.of_bodySF (plainFor_of_name pn_1) hisR ?_
  intro p e s m args below meth c s₁ Bd hml0 hP hK
  obtain ⟨rfl, hZ, hh⟩ := hP
  have hx := Bd.exec
  have hby := Bd.bytes
  have hml : c.maxLocals = 2 := hml0
  have hown : s.vm.findClass "com/example/linkspan/linkspan/memory/KeptBlocks" = some m.cls := findClass_of_methodNamed Bd.named
  have hnm := (name_of_methodNamed Bd.named Bd.method).1
  have hlk : meth.locks = false := Bd.notSynchronized
  have X0 : Stand p l e ({ frames := 0, cells := 0, slots := 0, locals := 0 } : Room) s m #[(.long q0)] below meth c s₁ [] 0 0 := Stand.of_body Bd
  have e0 : s₁.heap = h0 := by rw [← hh, Bd.state]; rfl
  have N0 := Fr.nil n0
  refine own_cast (Q := Q1 Z q0 h0 n0) (kc := 0) (ks := 0) (ef_1 m q0) ?_
  refine own_st (fun _ k => XS.lloadN X0.here hx rfl (hb hby d1_0) rfl k) ?_
  show own_Go X0 (Q1 Z q0 h0 n0) 0 0 1 #[.val (.long q0), .second] [(.long q0)]
  refine own_st (fun t k => X0.ldc2Long hx hown (mvT hZ (hw _ (List.mem_of_getElem? (i := 5) rfl))) (g := (mkF m 1 #[.val (.long q0), .second] [(.long q0)])) rfl (hb hby d1_1) t k) ?_
  show own_Go X0 (Q1 Z q0 h0 n0) 0 0 4 #[.val (.long q0), .second] [(.long (131072 : Int64)), (.long q0)]
  refine own_st (fun _ k => XS.lcmp X0.here hx rfl (hb hby d1_4) rfl k) ?_
  show own_Go X0 (Q1 Z q0 h0 n0) 0 0 5 #[.val (.long q0), .second] [(.int (lcmpW q0 (131072 : Int64)))]
  by_cases c5_1 : q0 < (131072 : Int64)
  · skip
    refine own_st (fun _ k => XS.ifYes X0.here hx rfl (pc0 := 5) (pc' := 20) rfl (hb hby d1_5) rfl ((if0 _ _).trans (tlt ((lw_lt _ _).mpr c5_1)).1) (by decide) (by decide) k) ?_
    show own_Go X0 (Q1 Z q0 h0 n0) 0 0 20 #[.val (.long q0), .second] []
    refine own_st (fun _ k => XS.iconst X0.here hx rfl (hb hby d1_20) k) ?_
    show own_Go X0 (Q1 Z q0 h0 n0) 0 0 21 #[.val (.long q0), .second] [(.int (0 : Int32))]
    refine own_retN X0 hx Bd.returns (by simp) hlk e0 (hb hby d1_21) (by decide) (by decide) ?_
    exact ⟨by simp [own_keeps, own_nar0, own_nar1, c5_1], N0, rfl⟩
  · skip
    refine own_st (fun _ k => XS.ifNo X0.here hx rfl (hb hby d1_5) rfl ((if0 _ _).trans (flt (fun q => c5_1 ((lw_lt _ _).mp q))).1) k) ?_
    show own_Go X0 (Q1 Z q0 h0 n0) 0 0 8 #[.val (.long q0), .second] []
    refine own_st (fun _ k => XS.lloadN X0.here hx rfl (hb hby d1_8) rfl k) ?_
    show own_Go X0 (Q1 Z q0 h0 n0) 0 0 9 #[.val (.long q0), .second] [(.long q0)]
    refine own_st (fun t k => X0.ldc2Long hx hown (mvT hZ (hw _ (List.mem_of_getElem? (i := 10) rfl))) (g := (mkF m 9 #[.val (.long q0), .second] [(.long q0)])) rfl (hb hby d1_9) t k) ?_
    show own_Go X0 (Q1 Z q0 h0 n0) 0 0 12 #[.val (.long q0), .second] [(.long (33554432 : Int64)), (.long q0)]
    refine own_st (fun _ k => XS.lcmp X0.here hx rfl (hb hby d1_12) rfl k) ?_
    show own_Go X0 (Q1 Z q0 h0 n0) 0 0 13 #[.val (.long q0), .second] [(.int (lcmpW q0 (33554432 : Int64)))]
    by_cases c13_2 : (33554432 : Int64) < q0
    · skip
      refine own_st (fun _ k => XS.ifYes X0.here hx rfl (pc0 := 13) (pc' := 20) rfl (hb hby d1_13) rfl ((if0 _ _).trans (tlt ((lw_gt _ _).mpr c13_2)).2.2.1) (by decide) (by decide) k) ?_
      show own_Go X0 (Q1 Z q0 h0 n0) 0 0 20 #[.val (.long q0), .second] []
      refine own_st (fun _ k => XS.iconst X0.here hx rfl (hb hby d1_20) k) ?_
      show own_Go X0 (Q1 Z q0 h0 n0) 0 0 21 #[.val (.long q0), .second] [(.int (0 : Int32))]
      refine own_retN X0 hx Bd.returns (by simp) hlk e0 (hb hby d1_21) (by decide) (by decide) ?_
      exact ⟨by simp [own_keeps, own_nar0, own_nar1, c5_1, c13_2], N0, rfl⟩
    · skip
      refine own_st (fun _ k => XS.ifNo X0.here hx rfl (hb hby d1_13) rfl ((if0 _ _).trans (flt (fun q => c13_2 ((lw_gt _ _).mp q))).2.2.1) k) ?_
      show own_Go X0 (Q1 Z q0 h0 n0) 0 0 16 #[.val (.long q0), .second] []
      refine own_st (fun _ k => XS.iconst X0.here hx rfl (hb hby d1_16) k) ?_
      show own_Go X0 (Q1 Z q0 h0 n0) 0 0 17 #[.val (.long q0), .second] [(.int (1 : Int32))]
      refine own_st (fun _ k => XS.goto X0.here hx rfl (pc0 := 17) (pc' := 21) rfl (hb hby d1_17) (by decide) (by decide) k) ?_
      show own_Go X0 (Q1 Z q0 h0 n0) 0 0 21 #[.val (.long q0), .second] [(.int (1 : Int32))]
      refine own_retN X0 hx Bd.returns (by simp) hlk e0 (hb hby d1_21) (by decide) (by decide) ?_
      exact ⟨by simp [own_keeps, own_nar0, own_nar1, c5_1, c13_2], N0, rfl⟩
theorem d2_0 : decode method_3_code 0 = .ok (.lload_n 0, 1) := by decide +kernel
theorem d2_1 : decode method_3_code 1 = .ok (.ldc2_w 9, 3) := by decide +kernel
theorem d2_4 : decode method_3_code 4 = .ok (.lsub, 1) := by decide +kernel
theorem d2_5 : decode method_3_code 5 = .ok (.lstore_n 2, 1) := by decide +kernel
theorem d2_6 : decode method_3_code 6 = .ok (.lload_n 2, 1) := by decide +kernel
theorem d2_7 : decode method_3_code 7 = .ok (.lconst 0, 1) := by decide +kernel
theorem d2_8 : decode method_3_code 8 = .ok (.lcmp, 1) := by decide +kernel
theorem d2_9 : decode method_3_code 9 = .ok (.ifCond .ge 5, 3) := by decide +kernel
theorem d2_12 : decode method_3_code 12 = .ok (.iconst 0, 1) := by decide +kernel
theorem d2_13 : decode method_3_code 13 = .ok (.ireturn, 1) := by decide +kernel
theorem d2_14 : decode method_3_code 14 = .ok (.lload_n 2, 1) := by decide +kernel
theorem d2_15 : decode method_3_code 15 = .ok (.ldc2_w 22, 3) := by decide +kernel
theorem d2_18 : decode method_3_code 18 = .ok (.lcmp, 1) := by decide +kernel
theorem d2_19 : decode method_3_code 19 = .ok (.ifCond .gt 7, 3) := by decide +kernel
theorem d2_22 : decode method_3_code 22 = .ok (.iconst 1, 1) := by decide +kernel
theorem d2_23 : decode method_3_code 23 = .ok (.goto 4, 3) := by decide +kernel
theorem d2_26 : decode method_3_code 26 = .ok (.iconst 0, 1) := by decide +kernel
theorem d2_27 : decode method_3_code 27 = .ok (.ireturn, 1) := by decide +kernel
theorem pn_2 : plainName "com/example/linkspan/linkspan/memory/KeptBlocksKeepsPinLaw" = true := by first | (simp [plainName, overriddenIn]; done) | decide +kernel
theorem ef_2 (m : MethodId) (q0 : Int64) : entryFrame m #[(.long q0)] 4 = mkF m 0 #[.val (.long q0), .second, .unset, .unset] [] := by first | (simp [entryFrame, mkF, argsToLocals, Value.category]; done) | rfl
def Q2 (Z : State) (q0 : Int64)  (h0 : Heap) (n0 : Nat) (v : Option Value) (h : Heap) (L : List Loc) : Prop := v = some (.int (own_ref q0)) ∧ Fr n0 L ∧ h = h0
set_option maxRecDepth 65536 in
set_option maxHeartbeats 40000000 in
theorem rm2 (l : Launch) (Z : State) (a0 : Array Value) (hw : ∀ d ∈ tables_1, d.before a0 Z = true) (ws : List Jvm.Cond) (q0 : Int64)  (h0 : Heap) (n0 : Nat) (Z0 : n0 ≤ h0.size)  :
    MetFree l (⟨"com/example/linkspan/linkspan/memory/KeptBlocksKeepsPinLaw", "reference", "(J)Z"⟩ : MethodName) (head1 (Jvm.Cond.code (⟨"com/example/linkspan/linkspan/memory/KeptBlocksKeepsPinLaw", "reference", "(J)Z"⟩ : MethodName) method_3_code 4 (some .boolean) :: ws) ({ frames := 0, cells := 0, slots := 0, locals := 0 } : Room)) (fun a U => a = #[(.long q0)] ∧ Z.Warmed39 U.vm ∧ U.heap = h0) (fun _ _ _ _ _ => True) (fun _ U o U' => ∃ v L, o = .returned v ∧ Q2 Z q0 h0 n0 v U'.heap L ∧ FrameEnd U o U' L ({ frames := 0, cells := 0, slots := 0, locals := 0 } : Room).cells ({ frames := 0, cells := 0, slots := 0, locals := 0 } : Room).slots) := by
  refine MetFree.of_bodySF (plainFor_of_name pn_2) hisR ?_
  intro p e s m args below meth c s₁ Bd hml0 hP hK
  obtain ⟨rfl, hZ, hh⟩ := hP
  have hx := Bd.exec
  have hby := Bd.bytes
  have hml : c.maxLocals = 4 := hml0
  have hown : s.vm.findClass "com/example/linkspan/linkspan/memory/KeptBlocksKeepsPinLaw" = some m.cls := findClass_of_methodNamed Bd.named
  have hnm := (name_of_methodNamed Bd.named Bd.method).1
  have hlk : meth.locks = false := Bd.notSynchronized
  have X0 : Stand p l e ({ frames := 0, cells := 0, slots := 0, locals := 0 } : Room) s m #[(.long q0)] below meth c s₁ [] 0 0 := Stand.of_body Bd
  have e0 : s₁.heap = h0 := by rw [← hh, Bd.state]; rfl
  have N0 := Fr.nil n0
  refine own_cast (Q := Q2 Z q0 h0 n0) (kc := 0) (ks := 0) (ef_2 m q0) ?_
  refine own_st (fun _ k => XS.lloadN X0.here hx rfl (hb hby d2_0) rfl k) ?_
  show own_Go X0 (Q2 Z q0 h0 n0) 0 0 1 #[.val (.long q0), .second, .unset, .unset] [(.long q0)]
  refine own_st (fun t k => X0.ldc2Long hx hown (mvT hZ (hw _ (List.mem_of_getElem? (i := 0) rfl))) (g := (mkF m 1 #[.val (.long q0), .second, .unset, .unset] [(.long q0)])) rfl (hb hby d2_1) t k) ?_
  show own_Go X0 (Q2 Z q0 h0 n0) 0 0 4 #[.val (.long q0), .second, .unset, .unset] [(.long (131072 : Int64)), (.long q0)]
  refine own_st (fun _ k => XS.lsub X0.here hx rfl (hb hby d2_4) rfl k) ?_
  show own_Go X0 (Q2 Z q0 h0 n0) 0 0 5 #[.val (.long q0), .second, .unset, .unset] [(.long (q0 - (131072 : Int64)))]
  refine own_st (fun _ k => XS.lstoreN X0.here hx rfl (hb hby d2_5) rfl (l' := #[.val (.long q0), .second, .val (.long (q0 - (131072 : Int64))), .second]) rfl k) ?_
  show own_Go X0 (Q2 Z q0 h0 n0) 0 0 6 #[.val (.long q0), .second, .val (.long (q0 - (131072 : Int64))), .second] []
  refine own_st (fun _ k => XS.lloadN X0.here hx rfl (hb hby d2_6) rfl k) ?_
  show own_Go X0 (Q2 Z q0 h0 n0) 0 0 7 #[.val (.long q0), .second, .val (.long (q0 - (131072 : Int64))), .second] [(.long (q0 - (131072 : Int64)))]
  refine own_st (fun _ k => XS.lconst X0.here hx rfl (hb hby d2_7) k) ?_
  show own_Go X0 (Q2 Z q0 h0 n0) 0 0 8 #[.val (.long q0), .second, .val (.long (q0 - (131072 : Int64))), .second] [(.long (0 : Int64)), (.long (q0 - (131072 : Int64)))]
  refine own_st (fun _ k => XS.lcmp X0.here hx rfl (hb hby d2_8) rfl k) ?_
  show own_Go X0 (Q2 Z q0 h0 n0) 0 0 9 #[.val (.long q0), .second, .val (.long (q0 - (131072 : Int64))), .second] [(.int (lcmpW (q0 - (131072 : Int64)) (0 : Int64)))]
  by_cases c9_1 : (q0 - (131072 : Int64)) < (0 : Int64)
  · skip
    refine own_st (fun _ k => XS.ifNo X0.here hx rfl (hb hby d2_9) rfl ((if0 _ _).trans (tlt ((lw_lt _ _).mpr c9_1)).2.1) k) ?_
    show own_Go X0 (Q2 Z q0 h0 n0) 0 0 12 #[.val (.long q0), .second, .val (.long (q0 - (131072 : Int64))), .second] []
    refine own_st (fun _ k => XS.iconst X0.here hx rfl (hb hby d2_12) k) ?_
    show own_Go X0 (Q2 Z q0 h0 n0) 0 0 13 #[.val (.long q0), .second, .val (.long (q0 - (131072 : Int64))), .second] [(.int (0 : Int32))]
    refine own_retN X0 hx Bd.returns (by simp) hlk e0 (hb hby d2_13) (by decide) (by decide) ?_
    exact ⟨by simp [own_ref, own_nar0, own_nar1, c9_1], N0, rfl⟩
  · skip
    refine own_st (fun _ k => XS.ifYes X0.here hx rfl (pc0 := 9) (pc' := 14) rfl (hb hby d2_9) rfl ((if0 _ _).trans (flt (fun q => c9_1 ((lw_lt _ _).mp q))).2.1) (by decide) (by decide) k) ?_
    show own_Go X0 (Q2 Z q0 h0 n0) 0 0 14 #[.val (.long q0), .second, .val (.long (q0 - (131072 : Int64))), .second] []
    refine own_st (fun _ k => XS.lloadN X0.here hx rfl (hb hby d2_14) rfl k) ?_
    show own_Go X0 (Q2 Z q0 h0 n0) 0 0 15 #[.val (.long q0), .second, .val (.long (q0 - (131072 : Int64))), .second] [(.long (q0 - (131072 : Int64)))]
    refine own_st (fun t k => X0.ldc2Long hx hown (mvT hZ (hw _ (List.mem_of_getElem? (i := 11) rfl))) (g := (mkF m 15 #[.val (.long q0), .second, .val (.long (q0 - (131072 : Int64))), .second] [(.long (q0 - (131072 : Int64)))])) rfl (hb hby d2_15) t k) ?_
    show own_Go X0 (Q2 Z q0 h0 n0) 0 0 18 #[.val (.long q0), .second, .val (.long (q0 - (131072 : Int64))), .second] [(.long (33423360 : Int64)), (.long (q0 - (131072 : Int64)))]
    refine own_st (fun _ k => XS.lcmp X0.here hx rfl (hb hby d2_18) rfl k) ?_
    show own_Go X0 (Q2 Z q0 h0 n0) 0 0 19 #[.val (.long q0), .second, .val (.long (q0 - (131072 : Int64))), .second] [(.int (lcmpW (q0 - (131072 : Int64)) (33423360 : Int64)))]
    by_cases c19_2 : (33423360 : Int64) < (q0 - (131072 : Int64))
    · skip
      refine own_st (fun _ k => XS.ifYes X0.here hx rfl (pc0 := 19) (pc' := 26) rfl (hb hby d2_19) rfl ((if0 _ _).trans (tlt ((lw_gt _ _).mpr c19_2)).2.2.1) (by decide) (by decide) k) ?_
      show own_Go X0 (Q2 Z q0 h0 n0) 0 0 26 #[.val (.long q0), .second, .val (.long (q0 - (131072 : Int64))), .second] []
      refine own_st (fun _ k => XS.iconst X0.here hx rfl (hb hby d2_26) k) ?_
      show own_Go X0 (Q2 Z q0 h0 n0) 0 0 27 #[.val (.long q0), .second, .val (.long (q0 - (131072 : Int64))), .second] [(.int (0 : Int32))]
      refine own_retN X0 hx Bd.returns (by simp) hlk e0 (hb hby d2_27) (by decide) (by decide) ?_
      exact ⟨by simp [own_ref, own_nar0, own_nar1, c9_1, c19_2], N0, rfl⟩
    · skip
      refine own_st (fun _ k => XS.ifNo X0.here hx rfl (hb hby d2_19) rfl ((if0 _ _).trans (flt (fun q => c19_2 ((lw_gt _ _).mp q))).2.2.1) k) ?_
      show own_Go X0 (Q2 Z q0 h0 n0) 0 0 22 #[.val (.long q0), .second, .val (.long (q0 - (131072 : Int64))), .second] []
      refine own_st (fun _ k => XS.iconst X0.here hx rfl (hb hby d2_22) k) ?_
      show own_Go X0 (Q2 Z q0 h0 n0) 0 0 23 #[.val (.long q0), .second, .val (.long (q0 - (131072 : Int64))), .second] [(.int (1 : Int32))]
      refine own_st (fun _ k => XS.goto X0.here hx rfl (pc0 := 23) (pc' := 27) rfl (hb hby d2_23) (by decide) (by decide) k) ?_
      show own_Go X0 (Q2 Z q0 h0 n0) 0 0 27 #[.val (.long q0), .second, .val (.long (q0 - (131072 : Int64))), .second] [(.int (1 : Int32))]
      refine own_retN X0 hx Bd.returns (by simp) hlk e0 (hb hby d2_27) (by decide) (by decide) ?_
      exact ⟨by simp [own_ref, own_nar0, own_nar1, c9_1, c19_2], N0, rfl⟩
theorem pn_0 : plainName "com/example/linkspan/linkspan/memory/KeptBlocksKeepsPinLaw" = true := by first | (simp [plainName, overriddenIn]; done) | decide +kernel
theorem pd_0_0 : parseMethodDescriptor "(J)Z" = some ⟨[.long], some .boolean⟩ := by decide +kernel
theorem ef_0 (m : MethodId) (q0 : Int64) (p1 : Int32) : entryFrame m #[(.long q0), (.int p1)] maxLocals = mkF m 0 #[.val (.long q0), .second, .val (.int p1), .unset, .unset, .unset, .unset, .unset, .unset, .unset, .unset] [] := by first | (simp [entryFrame, mkF, argsToLocals, Value.category, maxLocals]; done) | rfl
def Q0 (Z : State) (q0 : Int64) (p1 : Int32)  (h0 : Heap) (n0 : Nat) (v : Option Value) (h : Heap) (L : List Loc) : Prop := v = some (.int 1) ∧ Fr n0 L
set_option maxRecDepth 65536 in
set_option maxHeartbeats 40000000 in
theorem rm0 (l : Launch) (Z : State) (a0 : Array Value) (hw : ∀ d ∈ tables_1, d.before a0 Z = true) (ws : List Jvm.Cond) (q0 : Int64) (p1 : Int32)  (h0 : Heap) (n0 : Nat) (Z0 : n0 ≤ h0.size)  :
    MetFree l x (head1 (Jvm.Cond.code x code maxLocals ret :: ws) room_1) (fun a U => a = #[(.long q0), (.int p1)] ∧ Z.Warmed39 U.vm ∧ U.heap = h0) (fun _ _ _ _ _ => True) (fun _ U o U' => ∃ v L, o = .returned v ∧ Q0 Z q0 p1 h0 n0 v U'.heap L ∧ FrameEnd U o U' L 0 0) := by
  refine MetFree.of_bodySF (plainFor_of_name pn_0) hisR ?_
  intro p e s m args below meth c s₁ Bd hml0 hP hK
  obtain ⟨rfl, hZ, hh⟩ := hP
  have hx := Bd.exec
  have hby := Bd.bytes
  have hml : c.maxLocals = 11 := hml0
  have hown : s.vm.findClass "com/example/linkspan/linkspan/memory/KeptBlocksKeepsPinLaw" = some m.cls := findClass_of_methodNamed Bd.named
  have hnm := (name_of_methodNamed Bd.named Bd.method).1
  have hlk : meth.locks = false := Bd.notSynchronized
  have X0 : Stand p l e room_1 s m #[(.long q0), (.int p1)] below meth c s₁ [] 0 0 := Stand.of_body Bd
  have e0 : s₁.heap = h0 := by rw [← hh, Bd.state]; rfl
  have N0 := Fr.nil n0
  refine own_cast (Q := Q0 Z q0 p1 h0 n0) (kc := 0) (ks := 0) (ef_0 m q0 p1) ?_
  refine own_st (fun _ k => XS.iloadN X0.here hx rfl (hb hby at_0) rfl k) ?_
  show own_Go X0 (Q0 Z q0 p1 h0 n0) 0 0 1 #[.val (.long q0), .second, .val (.int p1), .unset, .unset, .unset, .unset, .unset, .unset, .unset, .unset] [(.int p1)]
  refine own_st (fun _ k => XS.bipush X0.here hx rfl (hb hby at_1) k) ?_
  show own_Go X0 (Q0 Z q0 p1 h0 n0) 0 0 3 #[.val (.long q0), .second, .val (.int p1), .unset, .unset, .unset, .unset, .unset, .unset, .unset, .unset] [(.int (7 : Int32)), (.int p1)]
  refine own_st (fun _ k => XS.iand X0.here hx rfl (hb hby at_3) rfl k) ?_
  show own_Go X0 (Q0 Z q0 p1 h0 n0) 0 0 4 #[.val (.long q0), .second, .val (.int p1), .unset, .unset, .unset, .unset, .unset, .unset, .unset, .unset] [(.int (p1 &&& (7 : Int32)))]
  refine own_st (fun _ k => XS.iconst X0.here hx rfl (hb hby at_4) k) ?_
  show own_Go X0 (Q0 Z q0 p1 h0 n0) 0 0 5 #[.val (.long q0), .second, .val (.int p1), .unset, .unset, .unset, .unset, .unset, .unset, .unset, .unset] [(.int (4 : Int32)), (.int (p1 &&& (7 : Int32)))]
  refine own_st (fun _ k => XS.isub X0.here hx rfl (hb hby at_5) rfl k) ?_
  show own_Go X0 (Q0 Z q0 p1 h0 n0) 0 0 6 #[.val (.long q0), .second, .val (.int p1), .unset, .unset, .unset, .unset, .unset, .unset, .unset, .unset] [(.int ((p1 &&& (7 : Int32)) - (4 : Int32)))]
  refine own_st (fun _ k => XS.i2l X0.here hx rfl (hb hby at_6) rfl k) ?_
  show own_Go X0 (Q0 Z q0 p1 h0 n0) 0 0 7 #[.val (.long q0), .second, .val (.int p1), .unset, .unset, .unset, .unset, .unset, .unset, .unset, .unset] [(.long (((p1 &&& (7 : Int32)) - (4 : Int32)).toInt64))]
  refine own_st (fun _ k => XS.lstoreN X0.here hx rfl (hb hby at_7) rfl (l' := #[.val (.long q0), .second, .val (.int p1), .val (.long (((p1 &&& (7 : Int32)) - (4 : Int32)).toInt64)), .second, .unset, .unset, .unset, .unset, .unset, .unset]) rfl k) ?_
  show own_Go X0 (Q0 Z q0 p1 h0 n0) 0 0 8 #[.val (.long q0), .second, .val (.int p1), .val (.long (((p1 &&& (7 : Int32)) - (4 : Int32)).toInt64)), .second, .unset, .unset, .unset, .unset, .unset, .unset] []
  refine own_st (fun _ k => XS.iloadN X0.here hx rfl (hb hby at_8) rfl k) ?_
  show own_Go X0 (Q0 Z q0 p1 h0 n0) 0 0 9 #[.val (.long q0), .second, .val (.int p1), .val (.long (((p1 &&& (7 : Int32)) - (4 : Int32)).toInt64)), .second, .unset, .unset, .unset, .unset, .unset, .unset] [(.int p1)]
  refine own_st (fun _ k => XS.bipush X0.here hx rfl (hb hby at_9) k) ?_
  show own_Go X0 (Q0 Z q0 p1 h0 n0) 0 0 11 #[.val (.long q0), .second, .val (.int p1), .val (.long (((p1 &&& (7 : Int32)) - (4 : Int32)).toInt64)), .second, .unset, .unset, .unset, .unset, .unset, .unset] [(.int (8 : Int32)), (.int p1)]
  refine own_st (fun _ k => XS.iand X0.here hx rfl (hb hby at_11) rfl k) ?_
  show own_Go X0 (Q0 Z q0 p1 h0 n0) 0 0 12 #[.val (.long q0), .second, .val (.int p1), .val (.long (((p1 &&& (7 : Int32)) - (4 : Int32)).toInt64)), .second, .unset, .unset, .unset, .unset, .unset, .unset] [(.int (p1 &&& (8 : Int32)))]
  by_cases c12_1 : (p1 &&& (8 : Int32)) = (0 : Int32)
  · skip
    refine own_st (fun _ k => XS.ifYes X0.here hx rfl (pc0 := 12) (pc' := 21) rfl (hb hby at_12) rfl ((if0 _ _).trans (teq c12_1).1) (by decide) (by decide) k) ?_
    show own_Go X0 (Q0 Z q0 p1 h0 n0) 0 0 21 #[.val (.long q0), .second, .val (.int p1), .val (.long (((p1 &&& (7 : Int32)) - (4 : Int32)).toInt64)), .second, .unset, .unset, .unset, .unset, .unset, .unset] []
    refine own_st (fun t k => X0.ldc2Long hx hown (mvT hZ (hw _ (List.mem_of_getElem? (i := 0) rfl))) (g := (mkF m 21 #[.val (.long q0), .second, .val (.int p1), .val (.long (((p1 &&& (7 : Int32)) - (4 : Int32)).toInt64)), .second, .unset, .unset, .unset, .unset, .unset, .unset] [])) rfl (hb hby at_21) t k) ?_
    show own_Go X0 (Q0 Z q0 p1 h0 n0) 0 0 24 #[.val (.long q0), .second, .val (.int p1), .val (.long (((p1 &&& (7 : Int32)) - (4 : Int32)).toInt64)), .second, .unset, .unset, .unset, .unset, .unset, .unset] [(.long (131072 : Int64))]
    refine own_st (fun _ k => XS.lstore X0.here hx rfl (hb hby at_24) rfl (l' := #[.val (.long q0), .second, .val (.int p1), .val (.long (((p1 &&& (7 : Int32)) - (4 : Int32)).toInt64)), .second, .val (.long (131072 : Int64)), .second, .unset, .unset, .unset, .unset]) rfl k) ?_
    show own_Go X0 (Q0 Z q0 p1 h0 n0) 0 0 26 #[.val (.long q0), .second, .val (.int p1), .val (.long (((p1 &&& (7 : Int32)) - (4 : Int32)).toInt64)), .second, .val (.long (131072 : Int64)), .second, .unset, .unset, .unset, .unset] []
    refine own_st (fun _ k => XS.lload X0.here hx rfl (hb hby at_26) rfl k) ?_
    show own_Go X0 (Q0 Z q0 p1 h0 n0) 0 0 28 #[.val (.long q0), .second, .val (.int p1), .val (.long (((p1 &&& (7 : Int32)) - (4 : Int32)).toInt64)), .second, .val (.long (131072 : Int64)), .second, .unset, .unset, .unset, .unset] [(.long (131072 : Int64))]
    refine own_st (fun _ k => XS.lloadN X0.here hx rfl (hb hby at_28) rfl k) ?_
    show own_Go X0 (Q0 Z q0 p1 h0 n0) 0 0 29 #[.val (.long q0), .second, .val (.int p1), .val (.long (((p1 &&& (7 : Int32)) - (4 : Int32)).toInt64)), .second, .val (.long (131072 : Int64)), .second, .unset, .unset, .unset, .unset] [(.long (((p1 &&& (7 : Int32)) - (4 : Int32)).toInt64)), (.long (131072 : Int64))]
    refine own_st (fun _ k => XS.ladd X0.here hx rfl (hb hby at_29) rfl k) ?_
    show own_Go X0 (Q0 Z q0 p1 h0 n0) 0 0 30 #[.val (.long q0), .second, .val (.int p1), .val (.long (((p1 &&& (7 : Int32)) - (4 : Int32)).toInt64)), .second, .val (.long (131072 : Int64)), .second, .unset, .unset, .unset, .unset] [(.long ((131072 : Int64) + (((p1 &&& (7 : Int32)) - (4 : Int32)).toInt64)))]
    refine own_st (fun _ k => XS.lstore X0.here hx rfl (hb hby at_30) rfl (l' := #[.val (.long q0), .second, .val (.int p1), .val (.long (((p1 &&& (7 : Int32)) - (4 : Int32)).toInt64)), .second, .val (.long (131072 : Int64)), .second, .val (.long ((131072 : Int64) + (((p1 &&& (7 : Int32)) - (4 : Int32)).toInt64))), .second, .unset, .unset]) rfl k) ?_
    show own_Go X0 (Q0 Z q0 p1 h0 n0) 0 0 32 #[.val (.long q0), .second, .val (.int p1), .val (.long (((p1 &&& (7 : Int32)) - (4 : Int32)).toInt64)), .second, .val (.long (131072 : Int64)), .second, .val (.long ((131072 : Int64) + (((p1 &&& (7 : Int32)) - (4 : Int32)).toInt64))), .second, .unset, .unset] []
    refine own_st (fun _ k => XS.lloadN X0.here hx rfl (hb hby at_32) rfl k) ?_
    show own_Go X0 (Q0 Z q0 p1 h0 n0) 0 0 33 #[.val (.long q0), .second, .val (.int p1), .val (.long (((p1 &&& (7 : Int32)) - (4 : Int32)).toInt64)), .second, .val (.long (131072 : Int64)), .second, .val (.long ((131072 : Int64) + (((p1 &&& (7 : Int32)) - (4 : Int32)).toInt64))), .second, .unset, .unset] [(.long q0)]
    refine own_callS (W := 0) X0 hx hZ hown (hw _ (List.mem_of_getElem? (i := 1) rfl)) (hw _ (List.mem_of_getElem? (i := 2) rfl)) (hw _ (List.mem_of_getElem? (i := 3) rfl)) (hw _ (List.mem_of_getElem? (i := 4) rfl)) (by decide) (rm1 l Z a0 hw [] q0  h0 n0 Z0 ) (by decide) (by decide) (by rw [hml]; rfl) [(.long q0)] [] (lenOf pd_0_0 rfl) rfl rfl (Nat.le_of_ble_eq_true rfl) (hb hby at_33) e0 (by decide) (by decide) ?_
    rintro _ T2 L2 X2 ⟨rfl, N2q, e2⟩
    have N_3 := Fr.app N0 N2q
    show own_Go X2 (Q0 Z q0 p1 h0 n0) 0 0 36 #[.val (.long q0), .second, .val (.int p1), .val (.long (((p1 &&& (7 : Int32)) - (4 : Int32)).toInt64)), .second, .val (.long (131072 : Int64)), .second, .val (.long ((131072 : Int64) + (((p1 &&& (7 : Int32)) - (4 : Int32)).toInt64))), .second, .unset, .unset] [(.int (own_keeps q0))]
    refine own_st (fun _ k => XS.istore X2.here hx rfl (hb hby at_36) rfl (l' := #[.val (.long q0), .second, .val (.int p1), .val (.long (((p1 &&& (7 : Int32)) - (4 : Int32)).toInt64)), .second, .val (.long (131072 : Int64)), .second, .val (.long ((131072 : Int64) + (((p1 &&& (7 : Int32)) - (4 : Int32)).toInt64))), .second, .val (.int (own_keeps q0)), .unset]) rfl k) ?_
    show own_Go X2 (Q0 Z q0 p1 h0 n0) 0 0 38 #[.val (.long q0), .second, .val (.int p1), .val (.long (((p1 &&& (7 : Int32)) - (4 : Int32)).toInt64)), .second, .val (.long (131072 : Int64)), .second, .val (.long ((131072 : Int64) + (((p1 &&& (7 : Int32)) - (4 : Int32)).toInt64))), .second, .val (.int (own_keeps q0)), .unset] []
    refine own_st (fun _ k => XS.lload X2.here hx rfl (hb hby at_38) rfl k) ?_
    show own_Go X2 (Q0 Z q0 p1 h0 n0) 0 0 40 #[.val (.long q0), .second, .val (.int p1), .val (.long (((p1 &&& (7 : Int32)) - (4 : Int32)).toInt64)), .second, .val (.long (131072 : Int64)), .second, .val (.long ((131072 : Int64) + (((p1 &&& (7 : Int32)) - (4 : Int32)).toInt64))), .second, .val (.int (own_keeps q0)), .unset] [(.long ((131072 : Int64) + (((p1 &&& (7 : Int32)) - (4 : Int32)).toInt64)))]
    refine own_callS (W := 0) X2 hx hZ hown (hw _ (List.mem_of_getElem? (i := 1) rfl)) (hw _ (List.mem_of_getElem? (i := 2) rfl)) (hw _ (List.mem_of_getElem? (i := 3) rfl)) (hw _ (List.mem_of_getElem? (i := 4) rfl)) (by decide) (rm1 l Z a0 hw [] ((131072 : Int64) + (((p1 &&& (7 : Int32)) - (4 : Int32)).toInt64))  h0 n0 Z0 ) (by decide) (by decide) (by rw [hml]; rfl) [(.long ((131072 : Int64) + (((p1 &&& (7 : Int32)) - (4 : Int32)).toInt64)))] [] (lenOf pd_0_0 rfl) rfl rfl (Nat.le_of_ble_eq_true rfl) (hb hby at_40) e2 (by decide) (by decide) ?_
    rintro _ T4 L4 X4 ⟨rfl, N4q, e4⟩
    have N_5 := Fr.app N_3 N4q
    show own_Go X4 (Q0 Z q0 p1 h0 n0) 0 0 43 #[.val (.long q0), .second, .val (.int p1), .val (.long (((p1 &&& (7 : Int32)) - (4 : Int32)).toInt64)), .second, .val (.long (131072 : Int64)), .second, .val (.long ((131072 : Int64) + (((p1 &&& (7 : Int32)) - (4 : Int32)).toInt64))), .second, .val (.int (own_keeps q0)), .unset] [(.int (own_keeps ((131072 : Int64) + (((p1 &&& (7 : Int32)) - (4 : Int32)).toInt64))))]
    refine own_st (fun _ k => XS.istore X4.here hx rfl (hb hby at_43) rfl (l' := #[.val (.long q0), .second, .val (.int p1), .val (.long (((p1 &&& (7 : Int32)) - (4 : Int32)).toInt64)), .second, .val (.long (131072 : Int64)), .second, .val (.long ((131072 : Int64) + (((p1 &&& (7 : Int32)) - (4 : Int32)).toInt64))), .second, .val (.int (own_keeps q0)), .val (.int (own_keeps ((131072 : Int64) + (((p1 &&& (7 : Int32)) - (4 : Int32)).toInt64))))]) rfl k) ?_
    show own_Go X4 (Q0 Z q0 p1 h0 n0) 0 0 45 #[.val (.long q0), .second, .val (.int p1), .val (.long (((p1 &&& (7 : Int32)) - (4 : Int32)).toInt64)), .second, .val (.long (131072 : Int64)), .second, .val (.long ((131072 : Int64) + (((p1 &&& (7 : Int32)) - (4 : Int32)).toInt64))), .second, .val (.int (own_keeps q0)), .val (.int (own_keeps ((131072 : Int64) + (((p1 &&& (7 : Int32)) - (4 : Int32)).toInt64))))] []
    refine own_st (fun _ k => XS.iload X4.here hx rfl (hb hby at_45) rfl k) ?_
    show own_Go X4 (Q0 Z q0 p1 h0 n0) 0 0 47 #[.val (.long q0), .second, .val (.int p1), .val (.long (((p1 &&& (7 : Int32)) - (4 : Int32)).toInt64)), .second, .val (.long (131072 : Int64)), .second, .val (.long ((131072 : Int64) + (((p1 &&& (7 : Int32)) - (4 : Int32)).toInt64))), .second, .val (.int (own_keeps q0)), .val (.int (own_keeps ((131072 : Int64) + (((p1 &&& (7 : Int32)) - (4 : Int32)).toInt64))))] [(.int (own_keeps q0))]
    refine own_st (fun _ k => XS.lloadN X4.here hx rfl (hb hby at_47) rfl k) ?_
    show own_Go X4 (Q0 Z q0 p1 h0 n0) 0 0 48 #[.val (.long q0), .second, .val (.int p1), .val (.long (((p1 &&& (7 : Int32)) - (4 : Int32)).toInt64)), .second, .val (.long (131072 : Int64)), .second, .val (.long ((131072 : Int64) + (((p1 &&& (7 : Int32)) - (4 : Int32)).toInt64))), .second, .val (.int (own_keeps q0)), .val (.int (own_keeps ((131072 : Int64) + (((p1 &&& (7 : Int32)) - (4 : Int32)).toInt64))))] [(.long q0), (.int (own_keeps q0))]
    refine own_callS (W := 1) X4 hx hZ hown (hw _ (List.mem_of_getElem? (i := 6) rfl)) (hw _ (List.mem_of_getElem? (i := 7) rfl)) (hw _ (List.mem_of_getElem? (i := 8) rfl)) (hw _ (List.mem_of_getElem? (i := 9) rfl)) (by decide) (rm2 l Z a0 hw [] q0  h0 n0 Z0 ) (by decide) (by decide) (by rw [hml]; rfl) [(.long q0)] [(.int (own_keeps q0))] (lenOf pd_0_0 rfl) rfl rfl (Nat.le_of_ble_eq_true rfl) (hb hby at_48) e4 (by decide) (by decide) ?_
    rintro _ T6 L6 X6 ⟨rfl, N6q, e6⟩
    have N_7 := Fr.app N_5 N6q
    show own_Go X6 (Q0 Z q0 p1 h0 n0) 0 0 51 #[.val (.long q0), .second, .val (.int p1), .val (.long (((p1 &&& (7 : Int32)) - (4 : Int32)).toInt64)), .second, .val (.long (131072 : Int64)), .second, .val (.long ((131072 : Int64) + (((p1 &&& (7 : Int32)) - (4 : Int32)).toInt64))), .second, .val (.int (own_keeps q0)), .val (.int (own_keeps ((131072 : Int64) + (((p1 &&& (7 : Int32)) - (4 : Int32)).toInt64))))] [(.int (own_ref q0)), (.int (own_keeps q0))]
    have c51_8 : (own_keeps q0) = (own_ref q0) := own_eq _
    refine own_st (fun _ k => XS.icmpNo X6.here hx rfl (hb hby at_51) rfl (teq c51_8).2 k) ?_
    show own_Go X6 (Q0 Z q0 p1 h0 n0) 0 0 54 #[.val (.long q0), .second, .val (.int p1), .val (.long (((p1 &&& (7 : Int32)) - (4 : Int32)).toInt64)), .second, .val (.long (131072 : Int64)), .second, .val (.long ((131072 : Int64) + (((p1 &&& (7 : Int32)) - (4 : Int32)).toInt64))), .second, .val (.int (own_keeps q0)), .val (.int (own_keeps ((131072 : Int64) + (((p1 &&& (7 : Int32)) - (4 : Int32)).toInt64))))] []
    refine own_st (fun _ k => XS.iload X6.here hx rfl (hb hby at_54) rfl k) ?_
    show own_Go X6 (Q0 Z q0 p1 h0 n0) 0 0 56 #[.val (.long q0), .second, .val (.int p1), .val (.long (((p1 &&& (7 : Int32)) - (4 : Int32)).toInt64)), .second, .val (.long (131072 : Int64)), .second, .val (.long ((131072 : Int64) + (((p1 &&& (7 : Int32)) - (4 : Int32)).toInt64))), .second, .val (.int (own_keeps q0)), .val (.int (own_keeps ((131072 : Int64) + (((p1 &&& (7 : Int32)) - (4 : Int32)).toInt64))))] [(.int (own_keeps ((131072 : Int64) + (((p1 &&& (7 : Int32)) - (4 : Int32)).toInt64))))]
    refine own_st (fun _ k => XS.lload X6.here hx rfl (hb hby at_56) rfl k) ?_
    show own_Go X6 (Q0 Z q0 p1 h0 n0) 0 0 58 #[.val (.long q0), .second, .val (.int p1), .val (.long (((p1 &&& (7 : Int32)) - (4 : Int32)).toInt64)), .second, .val (.long (131072 : Int64)), .second, .val (.long ((131072 : Int64) + (((p1 &&& (7 : Int32)) - (4 : Int32)).toInt64))), .second, .val (.int (own_keeps q0)), .val (.int (own_keeps ((131072 : Int64) + (((p1 &&& (7 : Int32)) - (4 : Int32)).toInt64))))] [(.long ((131072 : Int64) + (((p1 &&& (7 : Int32)) - (4 : Int32)).toInt64))), (.int (own_keeps ((131072 : Int64) + (((p1 &&& (7 : Int32)) - (4 : Int32)).toInt64))))]
    refine own_callS (W := 1) X6 hx hZ hown (hw _ (List.mem_of_getElem? (i := 6) rfl)) (hw _ (List.mem_of_getElem? (i := 7) rfl)) (hw _ (List.mem_of_getElem? (i := 8) rfl)) (hw _ (List.mem_of_getElem? (i := 9) rfl)) (by decide) (rm2 l Z a0 hw [] ((131072 : Int64) + (((p1 &&& (7 : Int32)) - (4 : Int32)).toInt64))  h0 n0 Z0 ) (by decide) (by decide) (by rw [hml]; rfl) [(.long ((131072 : Int64) + (((p1 &&& (7 : Int32)) - (4 : Int32)).toInt64)))] [(.int (own_keeps ((131072 : Int64) + (((p1 &&& (7 : Int32)) - (4 : Int32)).toInt64))))] (lenOf pd_0_0 rfl) rfl rfl (Nat.le_of_ble_eq_true rfl) (hb hby at_58) e6 (by decide) (by decide) ?_
    rintro _ T9 L9 X9 ⟨rfl, N9q, e9⟩
    have N_10 := Fr.app N_7 N9q
    show own_Go X9 (Q0 Z q0 p1 h0 n0) 0 0 61 #[.val (.long q0), .second, .val (.int p1), .val (.long (((p1 &&& (7 : Int32)) - (4 : Int32)).toInt64)), .second, .val (.long (131072 : Int64)), .second, .val (.long ((131072 : Int64) + (((p1 &&& (7 : Int32)) - (4 : Int32)).toInt64))), .second, .val (.int (own_keeps q0)), .val (.int (own_keeps ((131072 : Int64) + (((p1 &&& (7 : Int32)) - (4 : Int32)).toInt64))))] [(.int (own_ref ((131072 : Int64) + (((p1 &&& (7 : Int32)) - (4 : Int32)).toInt64)))), (.int (own_keeps ((131072 : Int64) + (((p1 &&& (7 : Int32)) - (4 : Int32)).toInt64))))]
    have c61_11 : (own_keeps ((131072 : Int64) + (((p1 &&& (7 : Int32)) - (4 : Int32)).toInt64))) = (own_ref ((131072 : Int64) + (((p1 &&& (7 : Int32)) - (4 : Int32)).toInt64))) := own_eq _
    refine own_st (fun _ k => XS.icmpNo X9.here hx rfl (hb hby at_61) rfl (teq c61_11).2 k) ?_
    show own_Go X9 (Q0 Z q0 p1 h0 n0) 0 0 64 #[.val (.long q0), .second, .val (.int p1), .val (.long (((p1 &&& (7 : Int32)) - (4 : Int32)).toInt64)), .second, .val (.long (131072 : Int64)), .second, .val (.long ((131072 : Int64) + (((p1 &&& (7 : Int32)) - (4 : Int32)).toInt64))), .second, .val (.int (own_keeps q0)), .val (.int (own_keeps ((131072 : Int64) + (((p1 &&& (7 : Int32)) - (4 : Int32)).toInt64))))] []
    refine own_st (fun _ k => XS.iconst X9.here hx rfl (hb hby at_64) k) ?_
    show own_Go X9 (Q0 Z q0 p1 h0 n0) 0 0 65 #[.val (.long q0), .second, .val (.int p1), .val (.long (((p1 &&& (7 : Int32)) - (4 : Int32)).toInt64)), .second, .val (.long (131072 : Int64)), .second, .val (.long ((131072 : Int64) + (((p1 &&& (7 : Int32)) - (4 : Int32)).toInt64))), .second, .val (.int (own_keeps q0)), .val (.int (own_keeps ((131072 : Int64) + (((p1 &&& (7 : Int32)) - (4 : Int32)).toInt64))))] [(.int (1 : Int32))]
    refine own_st (fun _ k => XS.goto X9.here hx rfl (pc0 := 65) (pc' := 69) rfl (hb hby at_65) (by decide) (by decide) k) ?_
    show own_Go X9 (Q0 Z q0 p1 h0 n0) 0 0 69 #[.val (.long q0), .second, .val (.int p1), .val (.long (((p1 &&& (7 : Int32)) - (4 : Int32)).toInt64)), .second, .val (.long (131072 : Int64)), .second, .val (.long ((131072 : Int64) + (((p1 &&& (7 : Int32)) - (4 : Int32)).toInt64))), .second, .val (.int (own_keeps q0)), .val (.int (own_keeps ((131072 : Int64) + (((p1 &&& (7 : Int32)) - (4 : Int32)).toInt64))))] [(.int (1 : Int32))]
    refine own_retN X9 hx Bd.returns (by simp) hlk e9 (hb hby at_69) (by decide) (by decide) ?_
    exact ⟨rfl, N_10⟩
  · skip
    refine own_st (fun _ k => XS.ifNo X0.here hx rfl (hb hby at_12) rfl ((if0 _ _).trans (feq c12_1).1) k) ?_
    show own_Go X0 (Q0 Z q0 p1 h0 n0) 0 0 15 #[.val (.long q0), .second, .val (.int p1), .val (.long (((p1 &&& (7 : Int32)) - (4 : Int32)).toInt64)), .second, .unset, .unset, .unset, .unset, .unset, .unset] []
    refine own_st (fun t k => X0.ldc2Long hx hown (mvT hZ (hw _ (List.mem_of_getElem? (i := 12) rfl))) (g := (mkF m 15 #[.val (.long q0), .second, .val (.int p1), .val (.long (((p1 &&& (7 : Int32)) - (4 : Int32)).toInt64)), .second, .unset, .unset, .unset, .unset, .unset, .unset] [])) rfl (hb hby at_15) t k) ?_
    show own_Go X0 (Q0 Z q0 p1 h0 n0) 0 0 18 #[.val (.long q0), .second, .val (.int p1), .val (.long (((p1 &&& (7 : Int32)) - (4 : Int32)).toInt64)), .second, .unset, .unset, .unset, .unset, .unset, .unset] [(.long (33554432 : Int64))]
    refine own_st (fun _ k => XS.goto X0.here hx rfl (pc0 := 18) (pc' := 24) rfl (hb hby at_18) (by decide) (by decide) k) ?_
    show own_Go X0 (Q0 Z q0 p1 h0 n0) 0 0 24 #[.val (.long q0), .second, .val (.int p1), .val (.long (((p1 &&& (7 : Int32)) - (4 : Int32)).toInt64)), .second, .unset, .unset, .unset, .unset, .unset, .unset] [(.long (33554432 : Int64))]
    refine own_st (fun _ k => XS.lstore X0.here hx rfl (hb hby at_24) rfl (l' := #[.val (.long q0), .second, .val (.int p1), .val (.long (((p1 &&& (7 : Int32)) - (4 : Int32)).toInt64)), .second, .val (.long (33554432 : Int64)), .second, .unset, .unset, .unset, .unset]) rfl k) ?_
    show own_Go X0 (Q0 Z q0 p1 h0 n0) 0 0 26 #[.val (.long q0), .second, .val (.int p1), .val (.long (((p1 &&& (7 : Int32)) - (4 : Int32)).toInt64)), .second, .val (.long (33554432 : Int64)), .second, .unset, .unset, .unset, .unset] []
    refine own_st (fun _ k => XS.lload X0.here hx rfl (hb hby at_26) rfl k) ?_
    show own_Go X0 (Q0 Z q0 p1 h0 n0) 0 0 28 #[.val (.long q0), .second, .val (.int p1), .val (.long (((p1 &&& (7 : Int32)) - (4 : Int32)).toInt64)), .second, .val (.long (33554432 : Int64)), .second, .unset, .unset, .unset, .unset] [(.long (33554432 : Int64))]
    refine own_st (fun _ k => XS.lloadN X0.here hx rfl (hb hby at_28) rfl k) ?_
    show own_Go X0 (Q0 Z q0 p1 h0 n0) 0 0 29 #[.val (.long q0), .second, .val (.int p1), .val (.long (((p1 &&& (7 : Int32)) - (4 : Int32)).toInt64)), .second, .val (.long (33554432 : Int64)), .second, .unset, .unset, .unset, .unset] [(.long (((p1 &&& (7 : Int32)) - (4 : Int32)).toInt64)), (.long (33554432 : Int64))]
    refine own_st (fun _ k => XS.ladd X0.here hx rfl (hb hby at_29) rfl k) ?_
    show own_Go X0 (Q0 Z q0 p1 h0 n0) 0 0 30 #[.val (.long q0), .second, .val (.int p1), .val (.long (((p1 &&& (7 : Int32)) - (4 : Int32)).toInt64)), .second, .val (.long (33554432 : Int64)), .second, .unset, .unset, .unset, .unset] [(.long ((33554432 : Int64) + (((p1 &&& (7 : Int32)) - (4 : Int32)).toInt64)))]
    refine own_st (fun _ k => XS.lstore X0.here hx rfl (hb hby at_30) rfl (l' := #[.val (.long q0), .second, .val (.int p1), .val (.long (((p1 &&& (7 : Int32)) - (4 : Int32)).toInt64)), .second, .val (.long (33554432 : Int64)), .second, .val (.long ((33554432 : Int64) + (((p1 &&& (7 : Int32)) - (4 : Int32)).toInt64))), .second, .unset, .unset]) rfl k) ?_
    show own_Go X0 (Q0 Z q0 p1 h0 n0) 0 0 32 #[.val (.long q0), .second, .val (.int p1), .val (.long (((p1 &&& (7 : Int32)) - (4 : Int32)).toInt64)), .second, .val (.long (33554432 : Int64)), .second, .val (.long ((33554432 : Int64) + (((p1 &&& (7 : Int32)) - (4 : Int32)).toInt64))), .second, .unset, .unset] []
    refine own_st (fun _ k => XS.lloadN X0.here hx rfl (hb hby at_32) rfl k) ?_
    show own_Go X0 (Q0 Z q0 p1 h0 n0) 0 0 33 #[.val (.long q0), .second, .val (.int p1), .val (.long (((p1 &&& (7 : Int32)) - (4 : Int32)).toInt64)), .second, .val (.long (33554432 : Int64)), .second, .val (.long ((33554432 : Int64) + (((p1 &&& (7 : Int32)) - (4 : Int32)).toInt64))), .second, .unset, .unset] [(.long q0)]
    refine own_callS (W := 0) X0 hx hZ hown (hw _ (List.mem_of_getElem? (i := 1) rfl)) (hw _ (List.mem_of_getElem? (i := 2) rfl)) (hw _ (List.mem_of_getElem? (i := 3) rfl)) (hw _ (List.mem_of_getElem? (i := 4) rfl)) (by decide) (rm1 l Z a0 hw [] q0  h0 n0 Z0 ) (by decide) (by decide) (by rw [hml]; rfl) [(.long q0)] [] (lenOf pd_0_0 rfl) rfl rfl (Nat.le_of_ble_eq_true rfl) (hb hby at_33) e0 (by decide) (by decide) ?_
    rintro _ T12 L12 X12 ⟨rfl, N12q, e12⟩
    have N_13 := Fr.app N0 N12q
    show own_Go X12 (Q0 Z q0 p1 h0 n0) 0 0 36 #[.val (.long q0), .second, .val (.int p1), .val (.long (((p1 &&& (7 : Int32)) - (4 : Int32)).toInt64)), .second, .val (.long (33554432 : Int64)), .second, .val (.long ((33554432 : Int64) + (((p1 &&& (7 : Int32)) - (4 : Int32)).toInt64))), .second, .unset, .unset] [(.int (own_keeps q0))]
    refine own_st (fun _ k => XS.istore X12.here hx rfl (hb hby at_36) rfl (l' := #[.val (.long q0), .second, .val (.int p1), .val (.long (((p1 &&& (7 : Int32)) - (4 : Int32)).toInt64)), .second, .val (.long (33554432 : Int64)), .second, .val (.long ((33554432 : Int64) + (((p1 &&& (7 : Int32)) - (4 : Int32)).toInt64))), .second, .val (.int (own_keeps q0)), .unset]) rfl k) ?_
    show own_Go X12 (Q0 Z q0 p1 h0 n0) 0 0 38 #[.val (.long q0), .second, .val (.int p1), .val (.long (((p1 &&& (7 : Int32)) - (4 : Int32)).toInt64)), .second, .val (.long (33554432 : Int64)), .second, .val (.long ((33554432 : Int64) + (((p1 &&& (7 : Int32)) - (4 : Int32)).toInt64))), .second, .val (.int (own_keeps q0)), .unset] []
    refine own_st (fun _ k => XS.lload X12.here hx rfl (hb hby at_38) rfl k) ?_
    show own_Go X12 (Q0 Z q0 p1 h0 n0) 0 0 40 #[.val (.long q0), .second, .val (.int p1), .val (.long (((p1 &&& (7 : Int32)) - (4 : Int32)).toInt64)), .second, .val (.long (33554432 : Int64)), .second, .val (.long ((33554432 : Int64) + (((p1 &&& (7 : Int32)) - (4 : Int32)).toInt64))), .second, .val (.int (own_keeps q0)), .unset] [(.long ((33554432 : Int64) + (((p1 &&& (7 : Int32)) - (4 : Int32)).toInt64)))]
    refine own_callS (W := 0) X12 hx hZ hown (hw _ (List.mem_of_getElem? (i := 1) rfl)) (hw _ (List.mem_of_getElem? (i := 2) rfl)) (hw _ (List.mem_of_getElem? (i := 3) rfl)) (hw _ (List.mem_of_getElem? (i := 4) rfl)) (by decide) (rm1 l Z a0 hw [] ((33554432 : Int64) + (((p1 &&& (7 : Int32)) - (4 : Int32)).toInt64))  h0 n0 Z0 ) (by decide) (by decide) (by rw [hml]; rfl) [(.long ((33554432 : Int64) + (((p1 &&& (7 : Int32)) - (4 : Int32)).toInt64)))] [] (lenOf pd_0_0 rfl) rfl rfl (Nat.le_of_ble_eq_true rfl) (hb hby at_40) e12 (by decide) (by decide) ?_
    rintro _ T14 L14 X14 ⟨rfl, N14q, e14⟩
    have N_15 := Fr.app N_13 N14q
    show own_Go X14 (Q0 Z q0 p1 h0 n0) 0 0 43 #[.val (.long q0), .second, .val (.int p1), .val (.long (((p1 &&& (7 : Int32)) - (4 : Int32)).toInt64)), .second, .val (.long (33554432 : Int64)), .second, .val (.long ((33554432 : Int64) + (((p1 &&& (7 : Int32)) - (4 : Int32)).toInt64))), .second, .val (.int (own_keeps q0)), .unset] [(.int (own_keeps ((33554432 : Int64) + (((p1 &&& (7 : Int32)) - (4 : Int32)).toInt64))))]
    refine own_st (fun _ k => XS.istore X14.here hx rfl (hb hby at_43) rfl (l' := #[.val (.long q0), .second, .val (.int p1), .val (.long (((p1 &&& (7 : Int32)) - (4 : Int32)).toInt64)), .second, .val (.long (33554432 : Int64)), .second, .val (.long ((33554432 : Int64) + (((p1 &&& (7 : Int32)) - (4 : Int32)).toInt64))), .second, .val (.int (own_keeps q0)), .val (.int (own_keeps ((33554432 : Int64) + (((p1 &&& (7 : Int32)) - (4 : Int32)).toInt64))))]) rfl k) ?_
    show own_Go X14 (Q0 Z q0 p1 h0 n0) 0 0 45 #[.val (.long q0), .second, .val (.int p1), .val (.long (((p1 &&& (7 : Int32)) - (4 : Int32)).toInt64)), .second, .val (.long (33554432 : Int64)), .second, .val (.long ((33554432 : Int64) + (((p1 &&& (7 : Int32)) - (4 : Int32)).toInt64))), .second, .val (.int (own_keeps q0)), .val (.int (own_keeps ((33554432 : Int64) + (((p1 &&& (7 : Int32)) - (4 : Int32)).toInt64))))] []
    refine own_st (fun _ k => XS.iload X14.here hx rfl (hb hby at_45) rfl k) ?_
    show own_Go X14 (Q0 Z q0 p1 h0 n0) 0 0 47 #[.val (.long q0), .second, .val (.int p1), .val (.long (((p1 &&& (7 : Int32)) - (4 : Int32)).toInt64)), .second, .val (.long (33554432 : Int64)), .second, .val (.long ((33554432 : Int64) + (((p1 &&& (7 : Int32)) - (4 : Int32)).toInt64))), .second, .val (.int (own_keeps q0)), .val (.int (own_keeps ((33554432 : Int64) + (((p1 &&& (7 : Int32)) - (4 : Int32)).toInt64))))] [(.int (own_keeps q0))]
    refine own_st (fun _ k => XS.lloadN X14.here hx rfl (hb hby at_47) rfl k) ?_
    show own_Go X14 (Q0 Z q0 p1 h0 n0) 0 0 48 #[.val (.long q0), .second, .val (.int p1), .val (.long (((p1 &&& (7 : Int32)) - (4 : Int32)).toInt64)), .second, .val (.long (33554432 : Int64)), .second, .val (.long ((33554432 : Int64) + (((p1 &&& (7 : Int32)) - (4 : Int32)).toInt64))), .second, .val (.int (own_keeps q0)), .val (.int (own_keeps ((33554432 : Int64) + (((p1 &&& (7 : Int32)) - (4 : Int32)).toInt64))))] [(.long q0), (.int (own_keeps q0))]
    refine own_callS (W := 1) X14 hx hZ hown (hw _ (List.mem_of_getElem? (i := 6) rfl)) (hw _ (List.mem_of_getElem? (i := 7) rfl)) (hw _ (List.mem_of_getElem? (i := 8) rfl)) (hw _ (List.mem_of_getElem? (i := 9) rfl)) (by decide) (rm2 l Z a0 hw [] q0  h0 n0 Z0 ) (by decide) (by decide) (by rw [hml]; rfl) [(.long q0)] [(.int (own_keeps q0))] (lenOf pd_0_0 rfl) rfl rfl (Nat.le_of_ble_eq_true rfl) (hb hby at_48) e14 (by decide) (by decide) ?_
    rintro _ T16 L16 X16 ⟨rfl, N16q, e16⟩
    have N_17 := Fr.app N_15 N16q
    show own_Go X16 (Q0 Z q0 p1 h0 n0) 0 0 51 #[.val (.long q0), .second, .val (.int p1), .val (.long (((p1 &&& (7 : Int32)) - (4 : Int32)).toInt64)), .second, .val (.long (33554432 : Int64)), .second, .val (.long ((33554432 : Int64) + (((p1 &&& (7 : Int32)) - (4 : Int32)).toInt64))), .second, .val (.int (own_keeps q0)), .val (.int (own_keeps ((33554432 : Int64) + (((p1 &&& (7 : Int32)) - (4 : Int32)).toInt64))))] [(.int (own_ref q0)), (.int (own_keeps q0))]
    have c51_18 : (own_keeps q0) = (own_ref q0) := own_eq _
    refine own_st (fun _ k => XS.icmpNo X16.here hx rfl (hb hby at_51) rfl (teq c51_18).2 k) ?_
    show own_Go X16 (Q0 Z q0 p1 h0 n0) 0 0 54 #[.val (.long q0), .second, .val (.int p1), .val (.long (((p1 &&& (7 : Int32)) - (4 : Int32)).toInt64)), .second, .val (.long (33554432 : Int64)), .second, .val (.long ((33554432 : Int64) + (((p1 &&& (7 : Int32)) - (4 : Int32)).toInt64))), .second, .val (.int (own_keeps q0)), .val (.int (own_keeps ((33554432 : Int64) + (((p1 &&& (7 : Int32)) - (4 : Int32)).toInt64))))] []
    refine own_st (fun _ k => XS.iload X16.here hx rfl (hb hby at_54) rfl k) ?_
    show own_Go X16 (Q0 Z q0 p1 h0 n0) 0 0 56 #[.val (.long q0), .second, .val (.int p1), .val (.long (((p1 &&& (7 : Int32)) - (4 : Int32)).toInt64)), .second, .val (.long (33554432 : Int64)), .second, .val (.long ((33554432 : Int64) + (((p1 &&& (7 : Int32)) - (4 : Int32)).toInt64))), .second, .val (.int (own_keeps q0)), .val (.int (own_keeps ((33554432 : Int64) + (((p1 &&& (7 : Int32)) - (4 : Int32)).toInt64))))] [(.int (own_keeps ((33554432 : Int64) + (((p1 &&& (7 : Int32)) - (4 : Int32)).toInt64))))]
    refine own_st (fun _ k => XS.lload X16.here hx rfl (hb hby at_56) rfl k) ?_
    show own_Go X16 (Q0 Z q0 p1 h0 n0) 0 0 58 #[.val (.long q0), .second, .val (.int p1), .val (.long (((p1 &&& (7 : Int32)) - (4 : Int32)).toInt64)), .second, .val (.long (33554432 : Int64)), .second, .val (.long ((33554432 : Int64) + (((p1 &&& (7 : Int32)) - (4 : Int32)).toInt64))), .second, .val (.int (own_keeps q0)), .val (.int (own_keeps ((33554432 : Int64) + (((p1 &&& (7 : Int32)) - (4 : Int32)).toInt64))))] [(.long ((33554432 : Int64) + (((p1 &&& (7 : Int32)) - (4 : Int32)).toInt64))), (.int (own_keeps ((33554432 : Int64) + (((p1 &&& (7 : Int32)) - (4 : Int32)).toInt64))))]
    refine own_callS (W := 1) X16 hx hZ hown (hw _ (List.mem_of_getElem? (i := 6) rfl)) (hw _ (List.mem_of_getElem? (i := 7) rfl)) (hw _ (List.mem_of_getElem? (i := 8) rfl)) (hw _ (List.mem_of_getElem? (i := 9) rfl)) (by decide) (rm2 l Z a0 hw [] ((33554432 : Int64) + (((p1 &&& (7 : Int32)) - (4 : Int32)).toInt64))  h0 n0 Z0 ) (by decide) (by decide) (by rw [hml]; rfl) [(.long ((33554432 : Int64) + (((p1 &&& (7 : Int32)) - (4 : Int32)).toInt64)))] [(.int (own_keeps ((33554432 : Int64) + (((p1 &&& (7 : Int32)) - (4 : Int32)).toInt64))))] (lenOf pd_0_0 rfl) rfl rfl (Nat.le_of_ble_eq_true rfl) (hb hby at_58) e16 (by decide) (by decide) ?_
    rintro _ T19 L19 X19 ⟨rfl, N19q, e19⟩
    have N_20 := Fr.app N_17 N19q
    show own_Go X19 (Q0 Z q0 p1 h0 n0) 0 0 61 #[.val (.long q0), .second, .val (.int p1), .val (.long (((p1 &&& (7 : Int32)) - (4 : Int32)).toInt64)), .second, .val (.long (33554432 : Int64)), .second, .val (.long ((33554432 : Int64) + (((p1 &&& (7 : Int32)) - (4 : Int32)).toInt64))), .second, .val (.int (own_keeps q0)), .val (.int (own_keeps ((33554432 : Int64) + (((p1 &&& (7 : Int32)) - (4 : Int32)).toInt64))))] [(.int (own_ref ((33554432 : Int64) + (((p1 &&& (7 : Int32)) - (4 : Int32)).toInt64)))), (.int (own_keeps ((33554432 : Int64) + (((p1 &&& (7 : Int32)) - (4 : Int32)).toInt64))))]
    have c61_21 : (own_keeps ((33554432 : Int64) + (((p1 &&& (7 : Int32)) - (4 : Int32)).toInt64))) = (own_ref ((33554432 : Int64) + (((p1 &&& (7 : Int32)) - (4 : Int32)).toInt64))) := own_eq _
    refine own_st (fun _ k => XS.icmpNo X19.here hx rfl (hb hby at_61) rfl (teq c61_21).2 k) ?_
    show own_Go X19 (Q0 Z q0 p1 h0 n0) 0 0 64 #[.val (.long q0), .second, .val (.int p1), .val (.long (((p1 &&& (7 : Int32)) - (4 : Int32)).toInt64)), .second, .val (.long (33554432 : Int64)), .second, .val (.long ((33554432 : Int64) + (((p1 &&& (7 : Int32)) - (4 : Int32)).toInt64))), .second, .val (.int (own_keeps q0)), .val (.int (own_keeps ((33554432 : Int64) + (((p1 &&& (7 : Int32)) - (4 : Int32)).toInt64))))] []
    refine own_st (fun _ k => XS.iconst X19.here hx rfl (hb hby at_64) k) ?_
    show own_Go X19 (Q0 Z q0 p1 h0 n0) 0 0 65 #[.val (.long q0), .second, .val (.int p1), .val (.long (((p1 &&& (7 : Int32)) - (4 : Int32)).toInt64)), .second, .val (.long (33554432 : Int64)), .second, .val (.long ((33554432 : Int64) + (((p1 &&& (7 : Int32)) - (4 : Int32)).toInt64))), .second, .val (.int (own_keeps q0)), .val (.int (own_keeps ((33554432 : Int64) + (((p1 &&& (7 : Int32)) - (4 : Int32)).toInt64))))] [(.int (1 : Int32))]
    refine own_st (fun _ k => XS.goto X19.here hx rfl (pc0 := 65) (pc' := 69) rfl (hb hby at_65) (by decide) (by decide) k) ?_
    show own_Go X19 (Q0 Z q0 p1 h0 n0) 0 0 69 #[.val (.long q0), .second, .val (.int p1), .val (.long (((p1 &&& (7 : Int32)) - (4 : Int32)).toInt64)), .second, .val (.long (33554432 : Int64)), .second, .val (.long ((33554432 : Int64) + (((p1 &&& (7 : Int32)) - (4 : Int32)).toInt64))), .second, .val (.int (own_keeps q0)), .val (.int (own_keeps ((33554432 : Int64) + (((p1 &&& (7 : Int32)) - (4 : Int32)).toInt64))))] [(.int (1 : Int32))]
    refine own_retN X19 hx Bd.returns (by simp) hlk e19 (hb hby at_69) (by decide) (by decide) ?_
    exact ⟨rfl, N_20⟩
set_option maxRecDepth 65536 in
set_option maxHeartbeats 40000000 in
theorem comes_1 {Post : Tables → Env → Array Value → State → Outcome → State → Prop} (hpost : ∀ tb e args s v u, (limb_1_1.after args s (.returned v) u = true ∧ limb_1_2.after args s (.returned v) u = true ∧ True) → FrameEnd s (.returned v) u (Jvm.fieldLocs frame_1_writes args s ++ Jvm.arrayLocs frame_1_arrays args s ++ Jvm.staticLocs frame_1_statics s) 0 0 → Post tb e args s (.returned v) u) :
    ArmFor flags0 classFile x code maxLocals ret World_1 tables_1 room_1 Calls_1 rest_1 Pre_1 Post := by
  intro l hfl _ _ p e ha hc hk s m args below hf hA hF happ hP
  obtain ⟨hcalls, hrest, hpre⟩ := hP
  obtain ⟨-, -, -, hnamed, -, -, -, hat⟩ := (Spec.applies_iff hf).mp happ
  obtain ⟨hg, hn⟩ := and_e (Cond.before_iff.mp (show (Jvm.Cond.and given_1 narrow_1).before args s = true from hpre))
  obtain ⟨g1, g2⟩ := and_e hg
  obtain ⟨g3, g4⟩ := and_e g2
  obtain ⟨w0, w1, rfl⟩ : ∃ w0 w1 : Value, args = #[w0, w1] := by
    have hs : args.size = 2 := by simpa [Cond.value, given_1] using g1
    obtain ⟨L⟩ := args
    match L, hs with
    | [w0, w1], _ => exact ⟨w0, w1, rfl⟩
  have hw := fun d (hd : d ∈ tables_1) => atoms_spec (ws := Jvm.Cond.code x code maxLocals ret :: tables_1) hat d (List.mem_cons_of_mem _ hd)
  obtain ⟨i0, ei0⟩ := isL_v g3
  obtain rfl : w0 = (.long i0) := Option.some.inj ei0
  obtain ⟨i1, ei1⟩ := is_v g4
  obtain rfl : w1 = (.int i1) := Option.some.inj ei1
  obtain ⟨n, o, h1, h2, h3, _, L, rfl, ⟨rfl, N⟩, hq⟩ := rm0 l s _ hw tables_1 i0 i1 s.heap s.heap.size (Nat.le_refl _) p e ha hc hk s m _ below hf ((Spec.applies_iff_loose hf).mp happ).1 ⟨rfl, State.Warmed39.refl s, rfl⟩ trivial
  refine ⟨n, _, h1, h2, h3, hpost _ _ _ _ _ _ ⟨Cond.after_iff.mpr rfl, Cond.after_iff.mpr (eq_i res_at (Term.int_eval (1)) rfl), trivial⟩ ⟨hq.1, hq.2.1, (hq.2.2.sift fun y hy => Or.inr (N y hy)).mono (by decide) (by decide)⟩⟩
theorem main_1_1 : Claimed_1_1 := comes_1 fun _ _ _ _ _ _ h hF => ⟨h.1, hF⟩
theorem main_1_2 : Claimed_1_2 := comes_1 fun _ _ _ _ _ _ h hF => ⟨h.2.1, hF⟩
end Jvm.Pilot.@@N@@
namespace Jvm.Pilot.@@N@@
open Jvm Jvm.ClassFile Sem Op Lib Jvm.Free Jvm.Stand Jvm.Pilot.@@N@@.Jvm.D
/-! MADE BY PROGRAM (witnessworld.py) out of the Statement's table words and the real class files: 9 classes; the members and pool entries that the words name. The judged class is class 1, her method 1. -/
namespace start1
open Jvm.ClassFile
def u (s : String) : CpInfo := .utf8 (stringToUtf16 s)
/-- a pool by its gaps: so many unusable entries, then the entry; so many at the end -/
def gap : Nat → List CpInfo → List CpInfo
  | 0, r => r
  | n + 1, r => .unusable :: gap n r
def poolList (es : List (Nat × CpInfo)) (last : Nat) : List CpInfo := es.foldr (fun e r => gap e.1 (e.2 :: r)) (gap last [])
def pool (es : List (Nat × CpInfo)) (last : Nat) : Array CpInfo := ⟨poolList es last⟩
def fileOf (pool : Array CpInfo) (this : Nat) (attrs : Array Attribute := #[]) (ms : Array MethodInfo := #[]) (fl : Nat := 33) (sup : Nat := 0) (ifs : Array Nat := #[]) (fds : Array FieldInfo := #[]) : ClassFile where
  minorVersion := 0
  majorVersion := 65
  constantPool := pool
  accessFlags := fl
  thisClass := this
  superClass := sup
  interfaces := ifs
  fields := fds
  methods := ms
  attributes := attrs
def plain (name : String) (sup : Option ClassId) : Class where
  name := name
  kind := .ordinary
  loader := none
  accessFlags := 33
  super := sup
  interfaces := #[]
  cf := none
  fields := #[]
  methods := #[]
  instanceTypes := #[]
  staticTypes := #[]
  resolved := #[]
  callSites := []
  init := .initialized
  statics := none
  mirror := none

def pool0 : Array CpInfo := pool [(5, u "<init>"), (0, u "()V"), (1, .class_ 10), (1, u "java/lang/Object")] 113

def k0m0 : Method := { name := "<init>", desc := "()V", sig := { parameters := [], returnType := none }, accessFlags := 1, code := none }
/-- java/lang/Object -/
def k0 : Class := { plain "java/lang/Object" none with
  accessFlags := 33
  interfaces := #[]
  cf := some (fileOf pool0 8 #[] #[{ accessFlags := 1, nameIndex := 5, descriptorIndex := 6, attributes := #[] }] 33 0 #[] #[])
  fields := #[]
  methods := #[k0m0]
  instanceTypes := #[]
  staticTypes := #[]
  resolved := Array.replicate 124 none
  statics := none }

def pool1 : Array CpInfo := pool [(2, .class_ 4), (1, u "java/lang/Object"), (0, u "<init>"), (0, u "()V"), (0, .long 33554432), (1, .long 131072), (1, .methodref 12 13), (0, .class_ 14), (0, .nameAndType 15 16), (0, u "com/example/linkspan/linkspan/memory/KeptBlocks"), (0, u "keeps"), (0, u "(J)Z"), (0, .methodref 18 19), (0, .class_ 20), (0, .nameAndType 21 16), (0, u "com/example/linkspan/linkspan/memory/KeptBlocksKeepsPinLaw"), (0, u "reference"), (0, .long 33423360), (3, u "law"), (0, u "(JI)Z")] 3

def k1m0 : Method := { name := "<init>", desc := "()V", sig := { parameters := [], returnType := none }, accessFlags := 2, code := none }
def k1c1 : Code := { maxStack := 4, maxLocals := 11, code := code, exceptionTable := #[], attributes := #[] }
def k1m1 : Method := { name := "law", desc := "(JI)Z", sig := { parameters := [.long, .int], returnType := some .boolean }, accessFlags := 9, code := some k1c1 }
def k1c2 : Code := { maxStack := 4, maxLocals := 4, code := method_3_code, exceptionTable := #[], attributes := #[] }
def k1m2 : Method := { name := "reference", desc := "(J)Z", sig := { parameters := [.long], returnType := some .boolean }, accessFlags := 10, code := some k1c2 }
/-- com/example/linkspan/linkspan/memory/KeptBlocksKeepsPinLaw -/
def k1 : Class := { plain "com/example/linkspan/linkspan/memory/KeptBlocksKeepsPinLaw" (some 0) with
  accessFlags := 49
  interfaces := #[]
  cf := some (fileOf pool1 18 #[] #[{ accessFlags := 2, nameIndex := 5, descriptorIndex := 6, attributes := #[] }, { accessFlags := 9, nameIndex := 26, descriptorIndex := 27, attributes := #[] }, { accessFlags := 10, nameIndex := 21, descriptorIndex := 16, attributes := #[] }] 49 2 #[] #[])
  fields := #[]
  methods := #[k1m0, k1m1, k1m2]
  instanceTypes := #[]
  staticTypes := #[]
  resolved := Array.replicate 31 none
  statics := none }

def pool2 : Array CpInfo := pool [(2, .class_ 4), (1, u "java/lang/Object"), (0, u "<init>"), (0, u "()V"), (4, .class_ 13), (1, u "com/example/linkspan/linkspan/memory/KeptBlocks"), (0, u "byKey"), (0, u "Ljava/util/Map;"), (0, .long 131072), (1, .long 33554432), (17, .class_ 37), (0, u "com/example/linkspan/linkspan/memory/KeptBlocks$Addresses"), (6, u "bytes"), (0, u "J"), (38, u "SMALLEST"), (1, u "LARGEST"), (0, u "ALIGNMENT_BITS"), (0, u "I"), (5, u "keeps"), (0, u "(J)Z")] 12

def k2m0 : Method := { name := "<init>", desc := "()V", sig := { parameters := [], returnType := none }, accessFlags := 0, code := none }
def k2c1 : Code := { maxStack := 4, maxLocals := 2, code := prog_77_method_2_code, exceptionTable := #[], attributes := #[] }
def k2m1 : Method := { name := "keeps", desc := "(J)Z", sig := { parameters := [.long], returnType := some .boolean }, accessFlags := 8, code := some k2c1 }
/-- com/example/linkspan/linkspan/memory/KeptBlocks -/
def k2 : Class := { plain "com/example/linkspan/linkspan/memory/KeptBlocks" (some 0) with
  accessFlags := 48
  interfaces := #[]
  cf := some (fileOf pool2 11 #[.nestMembers #[36]] #[{ accessFlags := 0, nameIndex := 5, descriptorIndex := 6, attributes := #[] }, { accessFlags := 8, nameIndex := 94, descriptorIndex := 95, attributes := #[] }] 48 2 #[] #[{ accessFlags := 24, nameIndex := 84, descriptorIndex := 45, attributes := #[] }, { accessFlags := 24, nameIndex := 86, descriptorIndex := 45, attributes := #[] }, { accessFlags := 26, nameIndex := 87, descriptorIndex := 88, attributes := #[] }, { accessFlags := 18, nameIndex := 14, descriptorIndex := 15, attributes := #[] }, { accessFlags := 66, nameIndex := 44, descriptorIndex := 45, attributes := #[] }])
  fields := #[{ name := "SMALLEST", type := .long, accessFlags := 24, slot := 0, constantValue := 0 }, { name := "LARGEST", type := .long, accessFlags := 24, slot := 1, constantValue := 0 }, { name := "ALIGNMENT_BITS", type := .int, accessFlags := 26, slot := 2, constantValue := 0 }, { name := "byKey", type := (.object "java/util/Map"), accessFlags := 18, slot := 0, constantValue := 0 }, { name := "bytes", type := .long, accessFlags := 66, slot := 1, constantValue := 0 }]
  methods := #[k2m0, k2m1]
  instanceTypes := #[(.object "java/util/Map"), .long]
  staticTypes := #[.long, .long, .int]
  resolved := Array.replicate 108 none
  statics := none }

def pool3 : Array CpInfo := pool [(1, u "java/lang/Cloneable"), (0, .class_ 1), (0, u "java/lang/Object"), (0, .class_ 3)] 3

/-- java/lang/Cloneable -/
def k3 : Class := { plain "java/lang/Cloneable" (some 0) with
  accessFlags := 1537
  interfaces := #[]
  cf := some (fileOf pool3 2 #[] #[] 1537 4 #[] #[])
  fields := #[]
  methods := #[]
  instanceTypes := #[]
  staticTypes := #[]
  resolved := Array.replicate 8 none
  statics := none }

def pool4 : Array CpInfo := pool [(1, u "java/io/Serializable"), (0, .class_ 1), (0, u "java/lang/Object"), (0, .class_ 3)] 3

/-- java/io/Serializable -/
def k4 : Class := { plain "java/io/Serializable" (some 0) with
  accessFlags := 1537
  interfaces := #[]
  cf := some (fileOf pool4 2 #[] #[] 1537 4 #[] #[])
  fields := #[]
  methods := #[]
  instanceTypes := #[]
  staticTypes := #[]
  resolved := Array.replicate 8 none
  statics := none }

/-- the primitive byte -/
def k5 : Class := { plain "byte" none with kind := .primitive 'B', accessFlags := 0x411 }
/-- [B -/
def k6 : Class := { plain "[B" (some 0) with kind := .array 5 .byte, interfaces := #[3, 4], accessFlags := 1041 }

/-- the primitive int -/
def k7 : Class := { plain "int" none with kind := .primitive 'I', accessFlags := 0x411 }
/-- [I -/
def k8 : Class := { plain "[I" (some 0) with kind := .array 7 .int, interfaces := #[3, 4], accessFlags := 1041 }

def heap : Heap := #[]
def classes : Array Class := #[k0, k1, k2, k3, k4, k5, k6, k7, k8]
def interned : List (Array UInt16 × Addr) := []
def slotsUsed : Nat := 0
def theMethod : MethodId := ⟨1, 1⟩
def args0 : Array Value := #[.long 5, .int 7]
def aboutOver (below : List Frame) : State where
  vm := { classes := classes, interned := interned.toArray }
  heap := heap
  slotsUsed := slotsUsed
  threads := #[{ frames := .invoking theMethod args0 :: below }]
def below0 : List Frame := [.native { method := ⟨0, 0⟩, args := #[] }]
def about1 : State := aboutOver below0
def p0 : Program := .bare "" "" ""
def e0 : Env := launch0.env 0 0 0
theorem w_frames : about1.frames = Frame.invoking theMethod args0 :: below0 := rfl
set_option maxRecDepth 65536 in
theorem w_args : argsFit about1.vm theMethod args0 = true := by decide +kernel
set_option maxRecDepth 65536 in
theorem w_heap : heapFits about1 = true := by decide +kernel
set_option maxRecDepth 65536 in
theorem w_runnable : about1.curStatus? = some .runnable := by decide +kernel
set_option maxRecDepth 65536 in
theorem w_alone : about1.alone = true := by decide +kernel
set_option maxRecDepth 65536 in
theorem w_named : about1.methodNamed? x = some theMethod := by decide +kernel
set_option maxRecDepth 65536 in
theorem w_hears : about1.hears theMethod below0 = true := by decide +kernel
set_option maxRecDepth 65536 in
theorem w_ripe : about1.ripe theMethod args0 below0 = true := by decide +kernel
theorem w_running : about1.status = .running := rfl
set_option maxRecDepth 65536 in
theorem w_room : about1.hasRoom e0.platform room_1 = true :=
  launch0.hasRoom_least _ room_1 (by decide +kernel) (by decide +kernel) (by decide +kernel) (by decide +kernel) (by decide +kernel) (by decide +kernel)
theorem allAtoms_all (ts : List Jvm.Cond) (a : Array Jvm.Value) (st : Jvm.State) : (allAtoms ts).before a st = ts.all (fun c => c.before a st) := by
  induction ts with
  | nil => rfl
  | cons c t ih =>
    show (Jvm.Cond.and c (allAtoms t)).before a st = _
    rw [Jvm.Cond.before_and, ih, List.all_cons]
def words1 : List Jvm.Cond := Jvm.Cond.code x code maxLocals ret :: tables_1
/-- a 'code' word, met by the world's own term for the bytes: nothing is compared byte by byte -/
theorem code_word {y : MethodName} {bytes : ByteArray} {mx : Nat} {rt : Option FieldType} {a : Array Value} {s : State} {m : MethodId} {meth : Method} {c : Code} (h1 : s.methodNamed? y = some m) (h2 : s.vm.method? m = some meth) (h3 : meth.code = some c) (h4 : c.code = bytes)
    (h5 : (c.maxLocals == mx && c.exceptionTable.isEmpty && decide (c.maxStack ≤ mostOperands) && decide (meth.sig.returnType = rt) && !meth.locks && decide (parseMethodDescriptor y.desc = some meth.sig)) = true) : (Jvm.Cond.code y bytes mx rt).before a s = true := by
  simp only [Bool.and_eq_true, beq_iff_eq, Bool.not_eq_true', decide_eq_true_eq] at h5
  obtain ⟨⟨⟨⟨⟨g1, g2⟩, g3⟩, g4⟩, g5⟩, g6⟩ := h5
  simp [Cond.before, Cond.holds, Cond.value, h1, h2, h3, h4, g1, g2, g3, g4, g5, g6]
def isCode : Jvm.Cond → Bool
  | .code _ _ _ _ => true
  | _ => false
theorem all_split {L : List Jvm.Cond} {P : Jvm.Cond → Bool} (h1 : L.all (fun c => isCode c || P c) = true) (h2 : ∀ c ∈ L.filter isCode, P c = true) : L.all P = true := by
  refine List.all_eq_true.mpr fun c hc => ?_
  have h := List.all_eq_true.mp h1 c hc
  rcases Bool.eq_false_or_eq_true (isCode c) with hi | hi
  · exact h2 c (List.mem_filter.mpr ⟨hc, hi⟩)
  · simpa [hi] using h
set_option maxRecDepth 65536 in
theorem w_c0 : (Jvm.Cond.code x code maxLocals ret).before args0 about1 = true := code_word (m := ⟨1, 1⟩) (meth := k1m1) (c := k1c1) (by decide +kernel) rfl rfl rfl (by decide +kernel)
set_option maxRecDepth 65536 in
theorem w_c1 : (Jvm.Cond.code ({ cls := "com/example/linkspan/linkspan/memory/KeptBlocks", name := "keeps", desc := "(J)Z" } : Jvm.MethodName) prog_77_method_2_code (2 : Nat) (Option.some Jvm.ClassFile.FieldType.boolean)).before args0 about1 = true := code_word (m := ⟨2, 1⟩) (meth := k2m1) (c := k2c1) (by decide +kernel) rfl rfl rfl (by decide +kernel)
set_option maxRecDepth 65536 in
theorem w_c2 : (Jvm.Cond.code ({ cls := "com/example/linkspan/linkspan/memory/KeptBlocksKeepsPinLaw", name := "reference", desc := "(J)Z" } : Jvm.MethodName) method_3_code (4 : Nat) (Option.some Jvm.ClassFile.FieldType.boolean)).before args0 about1 = true := code_word (m := ⟨1, 2⟩) (meth := k1m2) (c := k1c2) (by decide +kernel) rfl rfl rfl (by decide +kernel)
def codes1 : List Jvm.Cond := [Jvm.Cond.code x code maxLocals ret, Jvm.Cond.code ({ cls := "com/example/linkspan/linkspan/memory/KeptBlocks", name := "keeps", desc := "(J)Z" } : Jvm.MethodName) prog_77_method_2_code (2 : Nat) (Option.some Jvm.ClassFile.FieldType.boolean), Jvm.Cond.code ({ cls := "com/example/linkspan/linkspan/memory/KeptBlocksKeepsPinLaw", name := "reference", desc := "(J)Z" } : Jvm.MethodName) method_3_code (4 : Nat) (Option.some Jvm.ClassFile.FieldType.boolean)]
set_option maxRecDepth 65536 in
theorem codes_eq : words1.filter isCode = codes1 := rfl
theorem w_codes : ∀ c ∈ words1.filter isCode, c.before args0 about1 = true := by
  rw [codes_eq]
  intro c hc
  simp only [codes1, List.mem_cons, List.not_mem_nil, or_false] at hc
  rcases hc with rfl | rfl | rfl
  · exact w_c0
  · exact w_c1
  · exact w_c2
set_option maxRecDepth 65536 in
theorem w_t1 : words1.all (fun c => isCode c || c.before args0 about1) = true := by decide +kernel
theorem w_tables : (allAtoms (Jvm.Cond.code x code maxLocals ret :: tables_1)).before args0 about1 = true := by
  rw [allAtoms_all]
  show words1.all (fun c => c.before args0 about1) = true
  refine all_split ?_ w_codes
  rw [w_t1]
set_option maxRecDepth 65536 in
theorem w_case : (Jvm.Cond.and given_1 narrow_1).before args0 about1 = true := by decide +kernel
theorem w_applies : (headSpec (Jvm.Cond.code x code maxLocals ret :: tables_1) room_1).applies x e0.platform about1 = true :=
  (Spec.applies_iff w_frames).mpr ⟨w_running, w_runnable, w_alone, w_named, w_hears, w_ripe, w_room, w_tables⟩
theorem atStart : AtStart classFile x code maxLocals ret World_1 tables_1 room_1 Calls_1 rest_1 Pre_1 launch0 p0 e0 about1 theMethod args0 below0 :=
  ⟨lists_1, trivial, launch0.admits_env _ _ _, launch0.least_env, fairChoices_fair.cas, fairChoices_fair.clock, w_frames, w_args, w_heap, w_applies, trivial, trivial, w_case⟩
end start1
theorem witness_1 : WitnessClaimed_1 := ⟨start1.p0, start1.e0, start1.about1, start1.theMethod, start1.args0, start1.below0, start1.atStart⟩
end Jvm.Pilot.@@N@@
