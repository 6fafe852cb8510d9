import JvmDerived
import JvmDerived.Pilot.@@N@@Statement
import JvmDerived.Pilot.@@N@@Code
set_option linter.unusedVariables false
set_option linter.unusedSimpArgs false
namespace Jvm.Pilot.@@N@@
open Jvm Jvm.ClassFile Sem Op Lib Jvm.Free Jvm.Stand Jvm.LawKit Jvm.RoadKit Bundle Jvm.Pilot.@@N@@.Jvm.D
section Own
variable {p : Program} {l : Launch} {e : Env} {R : Room} {s : State} {m : MethodId} {args : Array Value} {below : List Frame} {meth : Method} {c : Code} {T T' Z : State} {locs : List Loc} {cells slots : Nat} {P : Outcome → State → Prop} {a0 : Array Value} {h : Heap}
/-- from the frame g over the state T the run ends, and P holds of the end -/
def Ends (p : Program) (e : Env) (below : List Frame) (P : Outcome → State → Prop) (T : State) (g : JFrame) : Prop :=
  ∃ s₂ o, Steps p.tables e below (T.setTop g) s₂ ∧ s₂.status = .running ∧ Ended s₂ below o ∧ P o s₂
theorem Ends.by {g g' : JFrame} (h : ∀ t, Steps p.tables e below (T'.setTop g') t → Steps p.tables e below (T.setTop g) t) (k : Ends p e below P T' g') : Ends p e below P T g :=
  let ⟨s₂, o, h1, r⟩ := k; ⟨s₂, o, h _ h1, r⟩
theorem Ends.on {g g' : JFrame} (h : Steps p.tables e below (T.setTop g) (T'.setTop g')) (k : Ends p e below P T' g') : Ends p e below P T g :=
  let ⟨s₂, o, h1, r⟩ := k; ⟨s₂, o, h.trans h1, r⟩
/-- the end: it returned v, Q holds of v, the heap and the places written; the frame -/
def Fini (s : State) (Q : Option Value → Heap → List Loc → Prop) (rc rs : Nat) : Outcome → State → Prop :=
  fun o U' => ∃ v L, o = .returned v ∧ Q v U'.heap L ∧ FrameEnd s o U' L rc rs
/-- a body's contract: from these arguments over the heap h0 it returns with Q -/
def Con (l : Launch) (Z : State) (y : MethodName) (bytes : ByteArray) (maxL : Nat) (ret : Option FieldType) (rm : Room) (as' : Array Value) (h0 : Heap) (Q : Option Value → Heap → List Loc → Prop) : Prop :=
  ∀ ws : List Jvm.Cond, MetFree l y (head1 (Jvm.Cond.code y bytes maxL ret :: ws) rm) (fun a U => a = as' ∧ Z.Warmed39 U.vm ∧ U.heap = h0) (fun _ _ _ _ _ => True) (fun _ U o U' => ∃ v L, o = .returned v ∧ Q v U'.heap L ∧ FrameEnd U o U' L rm.cells rm.slots)
theorem Con.intro {y : MethodName} {bytes : ByteArray} {maxL : Nat} {ret : Option FieldType} {rm : Room} {as' : Array Value} {h0 : Heap} {Q : Option Value → Heap → List Loc → Prop} (hpl : plainFor y = true)
    (body : ∀ (p : Program) (e : Env) (s : State) (m : MethodId) (below : List Frame) (meth : Method) (c : Code) (s₁ : State), p.tables.exec = Jvm.exec → c.code = bytes → c.maxLocals = maxL → s.vm.findClass y.cls = some m.cls → meth.name = y.name → meth.sig.returnType = ret → meth.locks = false → Z.Warmed39 s.vm →
      Stand p l e rm s m as' below meth c s₁ [] 0 0 → s₁.heap = h0 → Ends p e below (Fini s Q rm.cells rm.slots) s₁ (entryFrame m as' maxL)) : Con l Z y bytes maxL ret rm as' h0 Q := by
  intro ws
  refine MetFree.of_bodySF hpl hisR ?_
  intro p e s m args below meth c s₁ Bd hml0 hP hK
  obtain ⟨rfl, hZ, hh⟩ := hP
  have X0 : Stand p l e rm s m args below meth c s₁ [] 0 0 := Stand.of_body Bd
  have e0 : s₁.heap = h0 := by rw [← hh, Bd.state]; rfl
  exact body p e s m below meth c s₁ Bd.exec Bd.bytes hml0 (findClass_of_methodNamed Bd.named) (name_of_methodNamed Bd.named Bd.method).1 Bd.returns Bd.notSynchronized hZ X0 e0
theorem Con.mono {y : MethodName} {bytes : ByteArray} {maxL : Nat} {ret : Option FieldType} {rm : Room} {as' : Array Value} {h0 : Heap} {Q Q' : Option Value → Heap → List Loc → Prop} (C : Con l Z y bytes maxL ret rm as' h0 Q) (hq : ∀ v h L, Q v h L → Q' v h L) : Con l Z y bytes maxL ret rm as' h0 Q' :=
  fun ws p e ha hc hk s m args below hf happ hP hK => let ⟨n, o, h1, h2, h3, v, L, r1, r2, r3⟩ := C ws p e ha hc hk s m args below hf happ hP hK; ⟨n, o, h1, h2, h3, v, L, r1, hq _ _ _ r2, r3⟩
theorem Ends.cast {g g' : JFrame} (q : g = g') (k : Ends p e below P T g') : Ends p e below P T g := q ▸ k
theorem Ends.retV (X : Stand p l e R s m args below meth c T locs cells slots) (hx : p.tables.exec = Jvm.exec) (hlk : meth.locks = false) {pc : Nat} {Ls : Array Slot} (hret : meth.sig.returnType = none) (hd : decode c.code pc = .ok (.return_, 1))
    {Q : Option Value → Heap → List Loc → Prop} {rc rs : Nat} (hc : cells ≤ rc) (hs : slots ≤ rs) (hQ : Q none T.heap locs) : Ends p e below (Fini s Q rc rs) T (mkF m pc Ls []) := by
  obtain ⟨fs, hr, hrun, hended, hW, hsame⟩ := X.leave (v := none) (fun _ => rfl) hlk
  exact ⟨_, _, X.returnOut hx hret hd hr, hrun, hended, _, _, rfl, hQ, ⟨_, rfl⟩, hW, hsame.mono hc hs⟩
theorem Ends.retI (X : Stand p l e R s m args below meth c T locs cells slots) (hx : p.tables.exec = Jvm.exec) (hlk : meth.locks = false) {pc : Nat} {Ls : Array Slot} {z : Int32} {rest : List Value} (hret : meth.sig.returnType = some .int) (hd : decode c.code pc = .ok (.ireturn, 1))
    {Q : Option Value → Heap → List Loc → Prop} {rc rs : Nat} (hc : cells ≤ rc) (hs : slots ≤ rs) (hQ : Q (some (.int z)) T.heap locs) : Ends p e below (Fini s Q rc rs) T (mkF m pc Ls (.int z :: rest)) := by
  obtain ⟨fs, hr, hrun, hended, hW, hsame⟩ := X.leave (v := some (.int z)) (fun h => by rw [hret] at h; cases h) hlk
  exact ⟨_, _, retOut X hx hret rfl (Or.inl ⟨rfl, Or.inl rfl, z, rfl⟩) hd hr, hrun, hended, _, _, rfl, hQ, ⟨_, rfl⟩, hW, hsame.mono hc hs⟩
theorem Ends.retL (X : Stand p l e R s m args below meth c T locs cells slots) (hx : p.tables.exec = Jvm.exec) (hlk : meth.locks = false) {pc : Nat} {Ls : Array Slot} {z : Int64} {rest : List Value} (hret : meth.sig.returnType = some .long) (hd : decode c.code pc = .ok (.lreturn, 1))
    {Q : Option Value → Heap → List Loc → Prop} {rc rs : Nat} (hc : cells ≤ rc) (hs : slots ≤ rs) (hQ : Q (some (.long z)) T.heap locs) : Ends p e below (Fini s Q rc rs) T (mkF m pc Ls (.long z :: rest)) := by
  obtain ⟨fs, hr, hrun, hended, hW, hsame⟩ := X.leave (v := some (.long z)) (fun h => by rw [hret] at h; cases h) hlk
  exact ⟨_, _, retOut X hx hret rfl (Or.inr (Or.inl ⟨rfl, rfl, z, rfl⟩)) hd hr, hrun, hended, _, _, rfl, hQ, ⟨_, rfl⟩, hW, hsame.mono hc hs⟩
theorem Ends.retA (X : Stand p l e R s m args below meth c T locs cells slots) (hx : p.tables.exec = Jvm.exec) (hlk : meth.locks = false) {pc : Nat} {Ls : Array Slot} {t : FieldType} {a : Addr} {rest : List Value} (hret : meth.sig.returnType = some t) (ht : t.isReference = true) (hn : narrow t (.ref a) = .ref a) (hd : decode c.code pc = .ok (.areturn, 1))
    {Q : Option Value → Heap → List Loc → Prop} {rc rs : Nat} (hc : cells ≤ rc) (hs : slots ≤ rs) (hQ : Q (some (.ref a)) T.heap locs) : Ends p e below (Fini s Q rc rs) T (mkF m pc Ls (.ref a :: rest)) := by
  obtain ⟨fs, hr, hrun, hended, hW, hsame⟩ := X.leave (v := some (.ref a)) (fun h => by rw [hret] at h; cases h) hlk
  exact ⟨_, _, retOut X hx hret hn (Or.inr (Or.inr (Or.inr (Or.inr ⟨rfl, ht, rfl⟩)))) hd hr, hrun, hended, _, _, rfl, hQ, ⟨_, rfl⟩, hW, hsame.mono hc hs⟩
/-- a boolean that is 0 or 1 -/
theorem Ends.retZ (X : Stand p l e R s m args below meth c T locs cells slots) (hx : p.tables.exec = Jvm.exec) (hlk : meth.locks = false) {pc : Nat} {Ls : Array Slot} {z : Int32} {rest : List Value} (hret : meth.sig.returnType = some .boolean) (hd : decode c.code pc = .ok (.ireturn, 1)) (h01 : z &&& 1 = z)
    {Q : Option Value → Heap → List Loc → Prop} {rc rs : Nat} (hc : cells ≤ rc) (hs : slots ≤ rs) (hQ : Q (some (.int z)) T.heap locs) : Ends p e below (Fini s Q rc rs) T (mkF m pc Ls (.int z :: rest)) := by
  obtain ⟨fs, hr, hrun, hended, hW, hsame⟩ := X.leave (v := some (.int z)) (fun h => by rw [hret] at h; cases h) hlk
  have hn : nar .boolean z = z := h01
  refine ⟨_, _, retN X hx (t := .boolean) hret (by simp) hd (fs := fs) ?_, hrun, hended, _, _, rfl, hQ, ⟨_, rfl⟩, hW, hsame.mono hc hs⟩
  rw [hn]; exact hr
/-- a static method by its contract -/
theorem Ends.callS (X : Stand p l e R s m args below meth c T locs cells slots) (hx : p.tables.exec = Jvm.exec) (hZ : Z.Warmed39 s.vm) {own : String} {index : Nat} {y : MethodName} {bytes : ByteArray} {maxL : Nat} {ret : Option FieldType}
    (hown : s.vm.findClass own = some m.cls) (w1 : (Jvm.Cond.methodLink own index y).before a0 Z = true) (w2 : (Jvm.Cond.static y).before a0 Z = true) (w3 : (Jvm.Cond.initialized y.cls).before a0 Z = true) (w4 : (Jvm.Cond.code y bytes maxL ret).before a0 Z = true)
    (hy : y.cls ≠ "java/lang/invoke/MethodHandle" ∧ y.cls ≠ "java/lang/invoke/VarHandle") {rm : Room} {argsL rest : List Value} {Q : Option Value → Heap → List Loc → Prop} (C : Con l Z y bytes maxL ret rm argsL.toArray h Q) (eT : T.heap = h)
    {pc : Nat} {Ls : Array Slot} (hsize : Ls.size = c.maxLocals) (hd : decode c.code pc = .ok (.invokestatic index, 3)) (hlen : ∀ sig, parseMethodDescriptor y.desc = some sig → argsL.length = sig.parameters.length)
    (W : Nat) (hW : (rest.map fun v => v.category).sum ≤ W) (hf : rm.frames + 1 ≤ R.frames) (hl : W + (maxL + 11) + rm.locals ≤ R.locals) (hc : cells + rm.cells ≤ R.cells) (hs : slots + rm.slots ≤ R.slots)
    (k : ∀ v T' L, Stand p l e R s m args below meth c T' (locs ++ L) (cells + rm.cells) (slots + rm.slots) → Q v T'.heap L → Ends p e below P T' (mkF m (pc + 3) Ls (v.toList ++ rest))) :
    Ends p e below P T (mkF m pc Ls (argsL.reverse ++ rest)) := by
  obtain ⟨v, _, ⟨T1, L1, k1, n1⟩, -, X1, ⟨Lc, hQ, l1, y1, z1⟩, st⟩ := Jvm.LawKit.callS X hx (y := y) hown (mvT hZ w1) (mvT hZ w2) (mvT hZ w3) (mvT hZ w4) hy (backOf (W := W) (C []) hZ w4 w3 hf hl) (g := mkF m pc Ls (argsL.reverse ++ rest)) rfl hsize (argsL := argsL) (rest := rest) hlen rfl (by show 2 * 0 + _ ≤ _; omega) hd (fun _ _ => ⟨rfl, eT, hc, hs⟩)
  dsimp only [Pt.U, Pt.locs, Pt.cells, Pt.slots] at X1 l1 y1 z1 st hQ
  subst l1 y1 z1
  exact Ends.by st (k v T1 Lc X1 hQ)
/-- a constructor by its contract -/
theorem Ends.callI (X : Stand p l e R s m args below meth c T locs cells slots) (hx : p.tables.exec = Jvm.exec) (hZ : Z.Warmed39 s.vm) {own : String} {index : Nat} {y : MethodName} {bytes : ByteArray} {maxL : Nat} (hy1 : y.name = "<init>")
    (hown : s.vm.findClass own = some m.cls) (w1 : (Jvm.Cond.methodLink own index y).before a0 Z = true) (w2 : (Jvm.Cond.instanceMethod y).before a0 Z = true) (w3 : (Jvm.Cond.initialized y.cls).before a0 Z = true) (w4 : (Jvm.Cond.code y bytes maxL none).before a0 Z = true)
    (hy : y.cls ≠ "java/lang/invoke/MethodHandle" ∧ y.cls ≠ "java/lang/invoke/VarHandle") {rm : Room} {a : Addr} {argsL rest : List Value} {Q : Option Value → Heap → List Loc → Prop} (C : Con l Z y bytes maxL none rm (.ref a :: argsL).toArray h Q) (eT : T.heap = h)
    {pc : Nat} {Ls : Array Slot} (hsize : Ls.size = c.maxLocals) (hd : decode c.code pc = .ok (.invokespecial index, 3)) (hlen : ∀ sig, parseMethodDescriptor y.desc = some sig → argsL.length = sig.parameters.length)
    (W : Nat) (hW : (rest.map fun v => v.category).sum ≤ W) (hf : rm.frames + 1 ≤ R.frames) (hl : W + (maxL + 11) + rm.locals ≤ R.locals) (hc : cells + rm.cells ≤ R.cells) (hs : slots + rm.slots ≤ R.slots)
    (k : ∀ v T' L, Stand p l e R s m args below meth c T' (locs ++ L) (cells + rm.cells) (slots + rm.slots) → Q v T'.heap L → Ends p e below P T' (mkF m (pc + 3) Ls (v.toList ++ rest))) :
    Ends p e below P T (mkF m pc Ls (argsL.reverse ++ .ref a :: rest)) := by
  obtain ⟨v, _, ⟨T1, L1, k1, n1⟩, -, X1, ⟨Lc, hQ, l1, y1, z1⟩, st⟩ := X.specialBack hx (y := y) hy1 hown (mvT hZ w1) (mvT hZ w2) (mvT hZ w4) hy (backOf (W := W) (C []) hZ w4 w3 hf hl) (g := mkF m pc Ls (argsL.reverse ++ .ref a :: rest)) rfl hsize (Steps.refl _) (a := a) (argsL := argsL) (rest := rest) hlen rfl (by show 2 * 0 + _ ≤ _; omega) hd (fun _ _ => ⟨rfl, eT, hc, hs⟩)
  dsimp only [Pt.U, Pt.locs, Pt.cells, Pt.slots] at X1 l1 y1 z1 st hQ
  subst l1 y1 z1
  exact Ends.on st (k v T1 Lc X1 hQ)
/-- an instance method, declared and selected in the receiver's own class -/
theorem Ends.callV (X : Stand p l e R s m args below meth c T locs cells slots) (hx : p.tables.exec = Jvm.exec) (hZ : Z.Warmed39 s.vm) {own : String} {index : Nat} {y : MethodName} {bytes : ByteArray} {maxL : Nat} {ret : Option FieldType}
    (hown : s.vm.findClass own = some m.cls) (w1 : (Jvm.Cond.methodLink own index y).before a0 Z = true) (wd : (Jvm.Cond.declares y).before a0 Z = true) (w2 : (Jvm.Cond.instanceMethod y).before a0 Z = true) (ws : (Jvm.Cond.selects y.cls y y).before a0 Z = true) (w3 : (Jvm.Cond.initialized y.cls).before a0 Z = true) (w4 : (Jvm.Cond.code y bytes maxL ret).before a0 Z = true)
    (hy : y.cls ≠ "java/lang/invoke/MethodHandle" ∧ y.cls ≠ "java/lang/invoke/VarHandle") {rm : Room} {a : Addr} {argsL rest : List Value} {Q : Option Value → Heap → List Loc → Prop} (C : Con l Z y bytes maxL ret rm (.ref a :: argsL).toArray h Q) (eT : T.heap = h) (E : Exa Z h a y.cls)
    {pc : Nat} {Ls : Array Slot} (hsize : Ls.size = c.maxLocals) (hd : decode c.code pc = .ok (.invokevirtual index, 3)) (hlen : ∀ sig, parseMethodDescriptor y.desc = some sig → argsL.length = sig.parameters.length)
    (W : Nat) (hW : (rest.map fun v => v.category).sum ≤ W) (hf : rm.frames + 1 ≤ R.frames) (hl : W + (maxL + 11) + rm.locals ≤ R.locals) (hc : cells + rm.cells ≤ R.cells) (hs : slots + rm.slots ≤ R.slots)
    (k : ∀ v T' L, Stand p l e R s m args below meth c T' (locs ++ L) (cells + rm.cells) (slots + rm.slots) → Q v T'.heap L → Ends p e below P T' (mkF m (pc + 3) Ls (v.toList ++ rest))) :
    Ends p e below P T (mkF m pc Ls (argsL.reverse ++ .ref a :: rest)) := by
  obtain ⟨cq, kq, qa, qb, qc⟩ := isOf (T := T) hZ eT E
  obtain ⟨v, _, ⟨T1, L1, k1, n1⟩, -, X1, ⟨Lc, hQ, l1, y1, z1⟩, st⟩ := X.virtualBack hx (y := y) (z := y) hown (mvT hZ w1) (mvT hZ wd) (notFace_of_selects (args := #[]) (mvT hZ ws)) (mvT hZ ws) (mvT hZ w2) hy (backOf (W := W) (C []) hZ w4 w3 hf hl) qa qc (g := mkF m pc Ls (argsL.reverse ++ .ref a :: rest)) rfl hsize (Steps.refl _) (argsL := argsL) (rest := rest) hlen rfl (by show 2 * 0 + _ ≤ _; omega) hd (fun _ _ => ⟨rfl, eT, hc, hs⟩)
  dsimp only [Pt.U, Pt.locs, Pt.cells, Pt.slots] at X1 l1 y1 z1 st hQ
  subst l1 y1 z1
  exact Ends.on st (k v T1 Lc X1 hQ)
/-- nothing is written, nothing made: it returns v -/
def Pure (h0 : Heap) (r : Option Value) (v : Option Value) (h : Heap) (L : List Loc) : Prop := v = r ∧ h = h0 ∧ L = []
/-- the six comparisons, both ways at once -/
theorem Ends.icmp (X : Stand p l e R s m args below meth c T locs cells slots) (hx : p.tables.exec = Jvm.exec) {cd : ClassFile.Cond} {x y : Int32} {o : Int} {pc : Nat} {Ls : Array Slot} {rest : List Value} (hd : decode c.code pc = .ok (.if_icmp cd o, 3)) (pc' : Nat) (ho : 0 ≤ (pc : Int) + o) (hp : ((pc : Int) + o).toNat = pc')
    (kT : if_icmp.holds cd x y = true → Ends p e below P T (mkF m pc' Ls rest)) (kF : if_icmp.holds cd x y = false → Ends p e below P T (mkF m (pc + 3) Ls rest)) : Ends p e below P T (mkF m pc Ls (.int y :: .int x :: rest)) := by
  rcases hb : if_icmp.holds cd x y with _ | _
  · exact Ends.by (fun _ => XS.icmpNo X.here hx rfl hd rfl hb) (kF hb)
  · exact Ends.by (fun _ => XS.icmpYes X.here hx rfl (pc0 := pc) (pc' := pc') rfl hd rfl hb ho hp) (kT hb)
theorem own_andor (x a b : Int32) : (x &&& a) ||| (x &&& b) = x &&& (a ||| b) := by
  apply Int32.toBitVec_inj.mp
  rw [Int32.toBitVec_or, Int32.toBitVec_and, Int32.toBitVec_and, Int32.toBitVec_and, Int32.toBitVec_or, ← BitVec.and_or_distrib_left]
theorem own_lt {x y : Int32} : (if_icmp.holds .lt x y = true → x < y) ∧ (if_icmp.holds .lt x y = false → ¬ x < y) := ⟨fun q => Classical.byContradiction fun n => (by rw [(flt n).1] at q; cases q), fun q n => (by rw [(tlt n).1] at q; cases q)⟩
theorem own_ge {x y : Int32} : (if_icmp.holds .ge x y = true → ¬ x < y) ∧ (if_icmp.holds .ge x y = false → x < y) := ⟨fun q n => (by rw [(tlt n).2.1] at q; cases q), fun q => Classical.byContradiction fun n => (by rw [(flt n).2.1] at q; cases q)⟩
theorem own_gt {x y : Int32} : (if_icmp.holds .gt x y = true → y < x) ∧ (if_icmp.holds .gt x y = false → ¬ y < x) := ⟨fun q => Classical.byContradiction fun n => (by rw [(flt n).2.2.1] at q; cases q), fun q n => (by rw [(tlt n).2.2.1] at q; cases q)⟩
theorem own_le {x y : Int32} : (if_icmp.holds .le x y = true → ¬ y < x) ∧ (if_icmp.holds .le x y = false → y < x) := ⟨fun q n => (by rw [(tlt n).2.2.2] at q; cases q), fun q => Classical.byContradiction fun n => (by rw [(flt n).2.2.2] at q; cases q)⟩
theorem own_eq {x y : Int32} : (if_icmp.holds .eq x y = true → x = y) ∧ (if_icmp.holds .eq x y = false → ¬ x = y) := ⟨fun q => Classical.byContradiction fun n => (by rw [(feq n).1] at q; cases q), fun q n => (by rw [(teq n).1] at q; cases q)⟩
theorem own_ne {x y : Int32} : (if_icmp.holds .ne x y = true → ¬ x = y) ∧ (if_icmp.holds .ne x y = false → x = y) := ⟨fun q n => (by rw [(teq n).2] at q; cases q), fun q => Classical.byContradiction fun n => (by rw [(feq n).2] at q; cases q)⟩
theorem Ends.ifc (X : Stand p l e R s m args below meth c T locs cells slots) (hx : p.tables.exec = Jvm.exec) {cd : ClassFile.Cond} {x : Int32} {o : Int} {pc : Nat} {Ls : Array Slot} {rest : List Value} (hd : decode c.code pc = .ok (.ifCond cd o, 3)) (pc' : Nat) (ho : 0 ≤ (pc : Int) + o) (hp : ((pc : Int) + o).toNat = pc')
    (kT : if_icmp.holds cd x 0 = true → Ends p e below P T (mkF m pc' Ls rest)) (kF : if_icmp.holds cd x 0 = false → Ends p e below P T (mkF m (pc + 3) Ls rest)) : Ends p e below P T (mkF m pc Ls (.int x :: rest)) := by
  rcases hb : if_icmp.holds cd x 0 with _ | _
  · exact Ends.by (fun _ => XS.ifNo X.here hx rfl hd rfl ((if0 _ _).trans hb)) (kF hb)
  · exact Ends.by (fun _ => XS.ifYes X.here hx rfl (pc0 := pc) (pc' := pc') rfl hd rfl ((if0 _ _).trans hb) ho hp) (kT hb)
end Own
end Jvm.Pilot.@@N@@
namespace Jvm.Pilot.@@N@@
open Jvm Jvm.ClassFile Sem Op Lib Jvm.Free Jvm.Stand Jvm.LawKit Jvm.RoadKit Bundle Jvm.Pilot.@@N@@.Jvm.D
theorem d1_0 : decode prog_49_method_24_code 0 = .ok (.iload_n 0, 1) := by decide +kernel
theorem d1_1 : decode prog_49_method_24_code 1 = .ok (.bipush 48, 2) := by decide +kernel
theorem d1_3 : decode prog_49_method_24_code 3 = .ok (.if_icmp .lt 13, 3) := by decide +kernel
theorem d1_6 : decode prog_49_method_24_code 6 = .ok (.iload_n 0, 1) := by decide +kernel
theorem d1_7 : decode prog_49_method_24_code 7 = .ok (.bipush 57, 2) := by decide +kernel
theorem d1_9 : decode prog_49_method_24_code 9 = .ok (.if_icmp .gt 7, 3) := by decide +kernel
theorem d1_12 : decode prog_49_method_24_code 12 = .ok (.iconst 1, 1) := by decide +kernel
theorem d1_13 : decode prog_49_method_24_code 13 = .ok (.goto 4, 3) := by decide +kernel
theorem d1_16 : decode prog_49_method_24_code 16 = .ok (.iconst 0, 1) := by decide +kernel
theorem d1_17 : decode prog_49_method_24_code 17 = .ok (.ireturn, 1) := by decide +kernel
theorem pd_1 : parseMethodDescriptor "(C)Z" = some ⟨[.char], some .boolean⟩ := by decide +kernel
theorem pf_1 : plainFor (⟨"com/example/tiny_pbx/tinypbx/sip/SipParser", "isDigit", "(C)Z"⟩ : MethodName) = true := plainFor_of_name (by first | (simp [plainName, overriddenIn, x]; done) | decide +kernel)
theorem ef_1 (m : MethodId) (u : Int32) : entryFrame m #[(.int u)] 1 = mkF m 0 #[.val (.int u)] [] := by first | (simp [entryFrame, mkF, argsToLocals, Value.category]; done) | rfl
def f_1 (u : Int32) : Int32 :=
  if u < (48 : Int32) then (0 : Int32)
  else if (57 : Int32) < u then (0 : Int32)
  else (1 : Int32)
set_option maxRecDepth 65536 in
set_option maxHeartbeats 40000000 in
theorem con_1 (l : Launch) (Z : State) (a0 : Array Value) (hw : ∀ d ∈ tables_1, d.before a0 Z = true) (u : Int32) (h0 : Heap) : Con l Z (⟨"com/example/tiny_pbx/tinypbx/sip/SipParser", "isDigit", "(C)Z"⟩ : MethodName) prog_49_method_24_code 1 (some .boolean) ({ frames := 0, cells := 0, slots := 0, locals := 0 } : Room) #[(.int u)] h0 (Pure h0 (some (.int (f_1 u)))) := by
  refine Con.intro pf_1 ?_
  intro p e s m below meth c s₁ hx hby hml hown hnm hret hlk hZ X0 e0
  refine Ends.cast (ef_1 m u) ?_
  refine Ends.by (fun _ => XS.iloadN X0.here hx rfl (hb hby d1_0) rfl) ?_
  show Ends p e below _ s₁ (mkF m 1 #[.val (.int u)] [(.int u)])
  refine Ends.by (fun _ => XS.bipush X0.here hx rfl (hb hby d1_1)) ?_
  show Ends p e below _ s₁ (mkF m 3 #[.val (.int u)] [(.int (48 : Int32)), (.int u)])
  refine Ends.icmp X0 hx (hb hby d1_3) 16 (by decide) (by decide) (fun q => ?_) (fun q => ?_)
  · have c3 : u < (48 : Int32) := own_lt.1 q
    show Ends p e below _ s₁ (mkF m 16 #[.val (.int u)] [])
    refine Ends.by (fun _ => XS.iconst X0.here hx rfl (hb hby d1_16)) ?_
    show Ends p e below _ s₁ (mkF m 17 #[.val (.int u)] [(.int (0 : Int32))])
    exact Ends.retZ X0 hx hlk hret (hb hby d1_17) (by first | decide | (simp; done) | exact w01) (by decide) (by decide) ⟨by rw [f_1, if_pos c3], e0, rfl⟩
  · have c3 : ¬ (u < (48 : Int32)) := own_lt.2 q
    show Ends p e below _ s₁ (mkF m 6 #[.val (.int u)] [])
    refine Ends.by (fun _ => XS.iloadN X0.here hx rfl (hb hby d1_6) rfl) ?_
    show Ends p e below _ s₁ (mkF m 7 #[.val (.int u)] [(.int u)])
    refine Ends.by (fun _ => XS.bipush X0.here hx rfl (hb hby d1_7)) ?_
    show Ends p e below _ s₁ (mkF m 9 #[.val (.int u)] [(.int (57 : Int32)), (.int u)])
    refine Ends.icmp X0 hx (hb hby d1_9) 16 (by decide) (by decide) (fun q => ?_) (fun q => ?_)
    · have c9 : (57 : Int32) < u := own_gt.1 q
      show Ends p e below _ s₁ (mkF m 16 #[.val (.int u)] [])
      refine Ends.by (fun _ => XS.iconst X0.here hx rfl (hb hby d1_16)) ?_
      show Ends p e below _ s₁ (mkF m 17 #[.val (.int u)] [(.int (0 : Int32))])
      exact Ends.retZ X0 hx hlk hret (hb hby d1_17) (by first | decide | (simp; done) | exact w01) (by decide) (by decide) ⟨by rw [f_1, if_neg c3, if_pos c9], e0, rfl⟩
    · have c9 : ¬ ((57 : Int32) < u) := own_gt.2 q
      show Ends p e below _ s₁ (mkF m 12 #[.val (.int u)] [])
      refine Ends.by (fun _ => XS.iconst X0.here hx rfl (hb hby d1_12)) ?_
      show Ends p e below _ s₁ (mkF m 13 #[.val (.int u)] [(.int (1 : Int32))])
      refine Ends.by (fun _ => XS.goto X0.here hx rfl (pc0 := 13) (pc' := 17) rfl (hb hby d1_13) (by decide) (by decide)) ?_
      show Ends p e below _ s₁ (mkF m 17 #[.val (.int u)] [(.int (1 : Int32))])
      exact Ends.retZ X0 hx hlk hret (hb hby d1_17) (by first | decide | (simp; done) | exact w01) (by decide) (by decide) ⟨by rw [f_1, if_neg c3, if_neg c9], e0, rfl⟩
theorem d2_0 : decode method_2_code 0 = .ok (.iload_n 0, 1) := by decide +kernel
theorem d2_1 : decode method_2_code 1 = .ok (.bipush 48, 2) := by decide +kernel
theorem d2_3 : decode method_2_code 3 = .ok (.if_icmp .eq 57, 3) := by decide +kernel
theorem d2_6 : decode method_2_code 6 = .ok (.iload_n 0, 1) := by decide +kernel
theorem d2_7 : decode method_2_code 7 = .ok (.bipush 49, 2) := by decide +kernel
theorem d2_9 : decode method_2_code 9 = .ok (.if_icmp .eq 51, 3) := by decide +kernel
theorem d2_12 : decode method_2_code 12 = .ok (.iload_n 0, 1) := by decide +kernel
theorem d2_13 : decode method_2_code 13 = .ok (.bipush 50, 2) := by decide +kernel
theorem d2_15 : decode method_2_code 15 = .ok (.if_icmp .eq 45, 3) := by decide +kernel
theorem d2_18 : decode method_2_code 18 = .ok (.iload_n 0, 1) := by decide +kernel
theorem d2_19 : decode method_2_code 19 = .ok (.bipush 51, 2) := by decide +kernel
theorem d2_21 : decode method_2_code 21 = .ok (.if_icmp .eq 39, 3) := by decide +kernel
theorem d2_24 : decode method_2_code 24 = .ok (.iload_n 0, 1) := by decide +kernel
theorem d2_25 : decode method_2_code 25 = .ok (.bipush 52, 2) := by decide +kernel
theorem d2_27 : decode method_2_code 27 = .ok (.if_icmp .eq 33, 3) := by decide +kernel
theorem d2_30 : decode method_2_code 30 = .ok (.iload_n 0, 1) := by decide +kernel
theorem d2_31 : decode method_2_code 31 = .ok (.bipush 53, 2) := by decide +kernel
theorem d2_33 : decode method_2_code 33 = .ok (.if_icmp .eq 27, 3) := by decide +kernel
theorem d2_36 : decode method_2_code 36 = .ok (.iload_n 0, 1) := by decide +kernel
theorem d2_37 : decode method_2_code 37 = .ok (.bipush 54, 2) := by decide +kernel
theorem d2_39 : decode method_2_code 39 = .ok (.if_icmp .eq 21, 3) := by decide +kernel
theorem d2_42 : decode method_2_code 42 = .ok (.iload_n 0, 1) := by decide +kernel
theorem d2_43 : decode method_2_code 43 = .ok (.bipush 55, 2) := by decide +kernel
theorem d2_45 : decode method_2_code 45 = .ok (.if_icmp .eq 15, 3) := by decide +kernel
theorem d2_48 : decode method_2_code 48 = .ok (.iload_n 0, 1) := by decide +kernel
theorem d2_49 : decode method_2_code 49 = .ok (.bipush 56, 2) := by decide +kernel
theorem d2_51 : decode method_2_code 51 = .ok (.if_icmp .eq 9, 3) := by decide +kernel
theorem d2_54 : decode method_2_code 54 = .ok (.iload_n 0, 1) := by decide +kernel
theorem d2_55 : decode method_2_code 55 = .ok (.bipush 57, 2) := by decide +kernel
theorem d2_57 : decode method_2_code 57 = .ok (.if_icmp .ne 7, 3) := by decide +kernel
theorem d2_60 : decode method_2_code 60 = .ok (.iconst 1, 1) := by decide +kernel
theorem d2_61 : decode method_2_code 61 = .ok (.goto 4, 3) := by decide +kernel
theorem d2_64 : decode method_2_code 64 = .ok (.iconst 0, 1) := by decide +kernel
theorem d2_65 : decode method_2_code 65 = .ok (.ireturn, 1) := by decide +kernel
theorem pd_2 : parseMethodDescriptor "(C)Z" = some ⟨[.char], some .boolean⟩ := by decide +kernel
theorem pf_2 : plainFor (⟨"com/example/tiny_pbx/tinypbx/sip/SipParserIsDigitPinLaw", "oneOfTheTenDigits", "(C)Z"⟩ : MethodName) = true := plainFor_of_name (by first | (simp [plainName, overriddenIn, x]; done) | decide +kernel)
theorem ef_2 (m : MethodId) (u : Int32) : entryFrame m #[(.int u)] 1 = mkF m 0 #[.val (.int u)] [] := by first | (simp [entryFrame, mkF, argsToLocals, Value.category]; done) | rfl
def f_2 (u : Int32) : Int32 :=
  if u = (48 : Int32) then (1 : Int32)
  else if u = (49 : Int32) then (1 : Int32)
  else if u = (50 : Int32) then (1 : Int32)
  else if u = (51 : Int32) then (1 : Int32)
  else if u = (52 : Int32) then (1 : Int32)
  else if u = (53 : Int32) then (1 : Int32)
  else if u = (54 : Int32) then (1 : Int32)
  else if u = (55 : Int32) then (1 : Int32)
  else if u = (56 : Int32) then (1 : Int32)
  else if u = (57 : Int32) then (1 : Int32)
  else (0 : Int32)
set_option maxRecDepth 65536 in
set_option maxHeartbeats 40000000 in
theorem con_2 (l : Launch) (Z : State) (a0 : Array Value) (hw : ∀ d ∈ tables_1, d.before a0 Z = true) (u : Int32) (h0 : Heap) : Con l Z (⟨"com/example/tiny_pbx/tinypbx/sip/SipParserIsDigitPinLaw", "oneOfTheTenDigits", "(C)Z"⟩ : MethodName) method_2_code 1 (some .boolean) ({ frames := 0, cells := 0, slots := 0, locals := 0 } : Room) #[(.int u)] h0 (Pure h0 (some (.int (f_2 u)))) := by
  refine Con.intro pf_2 ?_
  intro p e s m below meth c s₁ hx hby hml hown hnm hret hlk hZ X0 e0
  refine Ends.cast (ef_2 m u) ?_
  refine Ends.by (fun _ => XS.iloadN X0.here hx rfl (hb hby d2_0) rfl) ?_
  show Ends p e below _ s₁ (mkF m 1 #[.val (.int u)] [(.int u)])
  refine Ends.by (fun _ => XS.bipush X0.here hx rfl (hb hby d2_1)) ?_
  show Ends p e below _ s₁ (mkF m 3 #[.val (.int u)] [(.int (48 : Int32)), (.int u)])
  refine Ends.icmp X0 hx (hb hby d2_3) 60 (by decide) (by decide) (fun q => ?_) (fun q => ?_)
  · have c3 : u = (48 : Int32) := own_eq.1 q
    show Ends p e below _ s₁ (mkF m 60 #[.val (.int u)] [])
    refine Ends.by (fun _ => XS.iconst X0.here hx rfl (hb hby d2_60)) ?_
    show Ends p e below _ s₁ (mkF m 61 #[.val (.int u)] [(.int (1 : Int32))])
    refine Ends.by (fun _ => XS.goto X0.here hx rfl (pc0 := 61) (pc' := 65) rfl (hb hby d2_61) (by decide) (by decide)) ?_
    show Ends p e below _ s₁ (mkF m 65 #[.val (.int u)] [(.int (1 : Int32))])
    exact Ends.retZ X0 hx hlk hret (hb hby d2_65) (by first | decide | (simp; done) | exact w01) (by decide) (by decide) ⟨by rw [f_2, if_pos c3], e0, rfl⟩
  · have c3 : ¬ (u = (48 : Int32)) := own_eq.2 q
    show Ends p e below _ s₁ (mkF m 6 #[.val (.int u)] [])
    refine Ends.by (fun _ => XS.iloadN X0.here hx rfl (hb hby d2_6) rfl) ?_
    show Ends p e below _ s₁ (mkF m 7 #[.val (.int u)] [(.int u)])
    refine Ends.by (fun _ => XS.bipush X0.here hx rfl (hb hby d2_7)) ?_
    show Ends p e below _ s₁ (mkF m 9 #[.val (.int u)] [(.int (49 : Int32)), (.int u)])
    refine Ends.icmp X0 hx (hb hby d2_9) 60 (by decide) (by decide) (fun q => ?_) (fun q => ?_)
    · have c9 : u = (49 : Int32) := own_eq.1 q
      show Ends p e below _ s₁ (mkF m 60 #[.val (.int u)] [])
      refine Ends.by (fun _ => XS.iconst X0.here hx rfl (hb hby d2_60)) ?_
      show Ends p e below _ s₁ (mkF m 61 #[.val (.int u)] [(.int (1 : Int32))])
      refine Ends.by (fun _ => XS.goto X0.here hx rfl (pc0 := 61) (pc' := 65) rfl (hb hby d2_61) (by decide) (by decide)) ?_
      show Ends p e below _ s₁ (mkF m 65 #[.val (.int u)] [(.int (1 : Int32))])
      exact Ends.retZ X0 hx hlk hret (hb hby d2_65) (by first | decide | (simp; done) | exact w01) (by decide) (by decide) ⟨by rw [f_2, if_neg c3, if_pos c9], e0, rfl⟩
    · have c9 : ¬ (u = (49 : Int32)) := own_eq.2 q
      show Ends p e below _ s₁ (mkF m 12 #[.val (.int u)] [])
      refine Ends.by (fun _ => XS.iloadN X0.here hx rfl (hb hby d2_12) rfl) ?_
      show Ends p e below _ s₁ (mkF m 13 #[.val (.int u)] [(.int u)])
      refine Ends.by (fun _ => XS.bipush X0.here hx rfl (hb hby d2_13)) ?_
      show Ends p e below _ s₁ (mkF m 15 #[.val (.int u)] [(.int (50 : Int32)), (.int u)])
      refine Ends.icmp X0 hx (hb hby d2_15) 60 (by decide) (by decide) (fun q => ?_) (fun q => ?_)
      · have c15 : u = (50 : Int32) := own_eq.1 q
        show Ends p e below _ s₁ (mkF m 60 #[.val (.int u)] [])
        refine Ends.by (fun _ => XS.iconst X0.here hx rfl (hb hby d2_60)) ?_
        show Ends p e below _ s₁ (mkF m 61 #[.val (.int u)] [(.int (1 : Int32))])
        refine Ends.by (fun _ => XS.goto X0.here hx rfl (pc0 := 61) (pc' := 65) rfl (hb hby d2_61) (by decide) (by decide)) ?_
        show Ends p e below _ s₁ (mkF m 65 #[.val (.int u)] [(.int (1 : Int32))])
        exact Ends.retZ X0 hx hlk hret (hb hby d2_65) (by first | decide | (simp; done) | exact w01) (by decide) (by decide) ⟨by rw [f_2, if_neg c3, if_neg c9, if_pos c15], e0, rfl⟩
      · have c15 : ¬ (u = (50 : Int32)) := own_eq.2 q
        show Ends p e below _ s₁ (mkF m 18 #[.val (.int u)] [])
        refine Ends.by (fun _ => XS.iloadN X0.here hx rfl (hb hby d2_18) rfl) ?_
        show Ends p e below _ s₁ (mkF m 19 #[.val (.int u)] [(.int u)])
        refine Ends.by (fun _ => XS.bipush X0.here hx rfl (hb hby d2_19)) ?_
        show Ends p e below _ s₁ (mkF m 21 #[.val (.int u)] [(.int (51 : Int32)), (.int u)])
        refine Ends.icmp X0 hx (hb hby d2_21) 60 (by decide) (by decide) (fun q => ?_) (fun q => ?_)
        · have c21 : u = (51 : Int32) := own_eq.1 q
          show Ends p e below _ s₁ (mkF m 60 #[.val (.int u)] [])
          refine Ends.by (fun _ => XS.iconst X0.here hx rfl (hb hby d2_60)) ?_
          show Ends p e below _ s₁ (mkF m 61 #[.val (.int u)] [(.int (1 : Int32))])
          refine Ends.by (fun _ => XS.goto X0.here hx rfl (pc0 := 61) (pc' := 65) rfl (hb hby d2_61) (by decide) (by decide)) ?_
          show Ends p e below _ s₁ (mkF m 65 #[.val (.int u)] [(.int (1 : Int32))])
          exact Ends.retZ X0 hx hlk hret (hb hby d2_65) (by first | decide | (simp; done) | exact w01) (by decide) (by decide) ⟨by rw [f_2, if_neg c3, if_neg c9, if_neg c15, if_pos c21], e0, rfl⟩
        · have c21 : ¬ (u = (51 : Int32)) := own_eq.2 q
          show Ends p e below _ s₁ (mkF m 24 #[.val (.int u)] [])
          refine Ends.by (fun _ => XS.iloadN X0.here hx rfl (hb hby d2_24) rfl) ?_
          show Ends p e below _ s₁ (mkF m 25 #[.val (.int u)] [(.int u)])
          refine Ends.by (fun _ => XS.bipush X0.here hx rfl (hb hby d2_25)) ?_
          show Ends p e below _ s₁ (mkF m 27 #[.val (.int u)] [(.int (52 : Int32)), (.int u)])
          refine Ends.icmp X0 hx (hb hby d2_27) 60 (by decide) (by decide) (fun q => ?_) (fun q => ?_)
          · have c27 : u = (52 : Int32) := own_eq.1 q
            show Ends p e below _ s₁ (mkF m 60 #[.val (.int u)] [])
            refine Ends.by (fun _ => XS.iconst X0.here hx rfl (hb hby d2_60)) ?_
            show Ends p e below _ s₁ (mkF m 61 #[.val (.int u)] [(.int (1 : Int32))])
            refine Ends.by (fun _ => XS.goto X0.here hx rfl (pc0 := 61) (pc' := 65) rfl (hb hby d2_61) (by decide) (by decide)) ?_
            show Ends p e below _ s₁ (mkF m 65 #[.val (.int u)] [(.int (1 : Int32))])
            exact Ends.retZ X0 hx hlk hret (hb hby d2_65) (by first | decide | (simp; done) | exact w01) (by decide) (by decide) ⟨by rw [f_2, if_neg c3, if_neg c9, if_neg c15, if_neg c21, if_pos c27], e0, rfl⟩
          · have c27 : ¬ (u = (52 : Int32)) := own_eq.2 q
            show Ends p e below _ s₁ (mkF m 30 #[.val (.int u)] [])
            refine Ends.by (fun _ => XS.iloadN X0.here hx rfl (hb hby d2_30) rfl) ?_
            show Ends p e below _ s₁ (mkF m 31 #[.val (.int u)] [(.int u)])
            refine Ends.by (fun _ => XS.bipush X0.here hx rfl (hb hby d2_31)) ?_
            show Ends p e below _ s₁ (mkF m 33 #[.val (.int u)] [(.int (53 : Int32)), (.int u)])
            refine Ends.icmp X0 hx (hb hby d2_33) 60 (by decide) (by decide) (fun q => ?_) (fun q => ?_)
            · have c33 : u = (53 : Int32) := own_eq.1 q
              show Ends p e below _ s₁ (mkF m 60 #[.val (.int u)] [])
              refine Ends.by (fun _ => XS.iconst X0.here hx rfl (hb hby d2_60)) ?_
              show Ends p e below _ s₁ (mkF m 61 #[.val (.int u)] [(.int (1 : Int32))])
              refine Ends.by (fun _ => XS.goto X0.here hx rfl (pc0 := 61) (pc' := 65) rfl (hb hby d2_61) (by decide) (by decide)) ?_
              show Ends p e below _ s₁ (mkF m 65 #[.val (.int u)] [(.int (1 : Int32))])
              exact Ends.retZ X0 hx hlk hret (hb hby d2_65) (by first | decide | (simp; done) | exact w01) (by decide) (by decide) ⟨by rw [f_2, if_neg c3, if_neg c9, if_neg c15, if_neg c21, if_neg c27, if_pos c33], e0, rfl⟩
            · have c33 : ¬ (u = (53 : Int32)) := own_eq.2 q
              show Ends p e below _ s₁ (mkF m 36 #[.val (.int u)] [])
              refine Ends.by (fun _ => XS.iloadN X0.here hx rfl (hb hby d2_36) rfl) ?_
              show Ends p e below _ s₁ (mkF m 37 #[.val (.int u)] [(.int u)])
              refine Ends.by (fun _ => XS.bipush X0.here hx rfl (hb hby d2_37)) ?_
              show Ends p e below _ s₁ (mkF m 39 #[.val (.int u)] [(.int (54 : Int32)), (.int u)])
              refine Ends.icmp X0 hx (hb hby d2_39) 60 (by decide) (by decide) (fun q => ?_) (fun q => ?_)
              · have c39 : u = (54 : Int32) := own_eq.1 q
                show Ends p e below _ s₁ (mkF m 60 #[.val (.int u)] [])
                refine Ends.by (fun _ => XS.iconst X0.here hx rfl (hb hby d2_60)) ?_
                show Ends p e below _ s₁ (mkF m 61 #[.val (.int u)] [(.int (1 : Int32))])
                refine Ends.by (fun _ => XS.goto X0.here hx rfl (pc0 := 61) (pc' := 65) rfl (hb hby d2_61) (by decide) (by decide)) ?_
                show Ends p e below _ s₁ (mkF m 65 #[.val (.int u)] [(.int (1 : Int32))])
                exact Ends.retZ X0 hx hlk hret (hb hby d2_65) (by first | decide | (simp; done) | exact w01) (by decide) (by decide) ⟨by rw [f_2, if_neg c3, if_neg c9, if_neg c15, if_neg c21, if_neg c27, if_neg c33, if_pos c39], e0, rfl⟩
              · have c39 : ¬ (u = (54 : Int32)) := own_eq.2 q
                show Ends p e below _ s₁ (mkF m 42 #[.val (.int u)] [])
                refine Ends.by (fun _ => XS.iloadN X0.here hx rfl (hb hby d2_42) rfl) ?_
                show Ends p e below _ s₁ (mkF m 43 #[.val (.int u)] [(.int u)])
                refine Ends.by (fun _ => XS.bipush X0.here hx rfl (hb hby d2_43)) ?_
                show Ends p e below _ s₁ (mkF m 45 #[.val (.int u)] [(.int (55 : Int32)), (.int u)])
                refine Ends.icmp X0 hx (hb hby d2_45) 60 (by decide) (by decide) (fun q => ?_) (fun q => ?_)
                · have c45 : u = (55 : Int32) := own_eq.1 q
                  show Ends p e below _ s₁ (mkF m 60 #[.val (.int u)] [])
                  refine Ends.by (fun _ => XS.iconst X0.here hx rfl (hb hby d2_60)) ?_
                  show Ends p e below _ s₁ (mkF m 61 #[.val (.int u)] [(.int (1 : Int32))])
                  refine Ends.by (fun _ => XS.goto X0.here hx rfl (pc0 := 61) (pc' := 65) rfl (hb hby d2_61) (by decide) (by decide)) ?_
                  show Ends p e below _ s₁ (mkF m 65 #[.val (.int u)] [(.int (1 : Int32))])
                  exact Ends.retZ X0 hx hlk hret (hb hby d2_65) (by first | decide | (simp; done) | exact w01) (by decide) (by decide) ⟨by rw [f_2, if_neg c3, if_neg c9, if_neg c15, if_neg c21, if_neg c27, if_neg c33, if_neg c39, if_pos c45], e0, rfl⟩
                · have c45 : ¬ (u = (55 : Int32)) := own_eq.2 q
                  show Ends p e below _ s₁ (mkF m 48 #[.val (.int u)] [])
                  refine Ends.by (fun _ => XS.iloadN X0.here hx rfl (hb hby d2_48) rfl) ?_
                  show Ends p e below _ s₁ (mkF m 49 #[.val (.int u)] [(.int u)])
                  refine Ends.by (fun _ => XS.bipush X0.here hx rfl (hb hby d2_49)) ?_
                  show Ends p e below _ s₁ (mkF m 51 #[.val (.int u)] [(.int (56 : Int32)), (.int u)])
                  refine Ends.icmp X0 hx (hb hby d2_51) 60 (by decide) (by decide) (fun q => ?_) (fun q => ?_)
                  · have c51 : u = (56 : Int32) := own_eq.1 q
                    show Ends p e below _ s₁ (mkF m 60 #[.val (.int u)] [])
                    refine Ends.by (fun _ => XS.iconst X0.here hx rfl (hb hby d2_60)) ?_
                    show Ends p e below _ s₁ (mkF m 61 #[.val (.int u)] [(.int (1 : Int32))])
                    refine Ends.by (fun _ => XS.goto X0.here hx rfl (pc0 := 61) (pc' := 65) rfl (hb hby d2_61) (by decide) (by decide)) ?_
                    show Ends p e below _ s₁ (mkF m 65 #[.val (.int u)] [(.int (1 : Int32))])
                    exact Ends.retZ X0 hx hlk hret (hb hby d2_65) (by first | decide | (simp; done) | exact w01) (by decide) (by decide) ⟨by rw [f_2, if_neg c3, if_neg c9, if_neg c15, if_neg c21, if_neg c27, if_neg c33, if_neg c39, if_neg c45, if_pos c51], e0, rfl⟩
                  · have c51 : ¬ (u = (56 : Int32)) := own_eq.2 q
                    show Ends p e below _ s₁ (mkF m 54 #[.val (.int u)] [])
                    refine Ends.by (fun _ => XS.iloadN X0.here hx rfl (hb hby d2_54) rfl) ?_
                    show Ends p e below _ s₁ (mkF m 55 #[.val (.int u)] [(.int u)])
                    refine Ends.by (fun _ => XS.bipush X0.here hx rfl (hb hby d2_55)) ?_
                    show Ends p e below _ s₁ (mkF m 57 #[.val (.int u)] [(.int (57 : Int32)), (.int u)])
                    refine Ends.icmp X0 hx (hb hby d2_57) 64 (by decide) (by decide) (fun q => ?_) (fun q => ?_)
                    · have c57 : ¬ (u = (57 : Int32)) := own_ne.1 q
                      show Ends p e below _ s₁ (mkF m 64 #[.val (.int u)] [])
                      refine Ends.by (fun _ => XS.iconst X0.here hx rfl (hb hby d2_64)) ?_
                      show Ends p e below _ s₁ (mkF m 65 #[.val (.int u)] [(.int (0 : Int32))])
                      exact Ends.retZ X0 hx hlk hret (hb hby d2_65) (by first | decide | (simp; done) | exact w01) (by decide) (by decide) ⟨by rw [f_2, if_neg c3, if_neg c9, if_neg c15, if_neg c21, if_neg c27, if_neg c33, if_neg c39, if_neg c45, if_neg c51, if_neg c57], e0, rfl⟩
                    · have c57 : u = (57 : Int32) := own_ne.2 q
                      show Ends p e below _ s₁ (mkF m 60 #[.val (.int u)] [])
                      refine Ends.by (fun _ => XS.iconst X0.here hx rfl (hb hby d2_60)) ?_
                      show Ends p e below _ s₁ (mkF m 61 #[.val (.int u)] [(.int (1 : Int32))])
                      refine Ends.by (fun _ => XS.goto X0.here hx rfl (pc0 := 61) (pc' := 65) rfl (hb hby d2_61) (by decide) (by decide)) ?_
                      show Ends p e below _ s₁ (mkF m 65 #[.val (.int u)] [(.int (1 : Int32))])
                      exact Ends.retZ X0 hx hlk hret (hb hby d2_65) (by first | decide | (simp; done) | exact w01) (by decide) (by decide) ⟨by rw [f_2, if_neg c3, if_neg c9, if_neg c15, if_neg c21, if_neg c27, if_neg c33, if_neg c39, if_neg c45, if_neg c51, if_pos c57], e0, rfl⟩
theorem pd_0 : parseMethodDescriptor "(I)Z" = some ⟨[.int], some .boolean⟩ := by decide +kernel
theorem pf_0 : plainFor x = true := plainFor_of_name (by first | (simp [plainName, overriddenIn, x]; done) | decide +kernel)
theorem ef_0 (m : MethodId) (n : Int32) : entryFrame m #[(.int n)] maxLocals = mkF m 0 #[.val (.int n), .unset] [] := by first | (simp [entryFrame, mkF, argsToLocals, Value.category, maxLocals]; done) | rfl
def f_0 (n : Int32) : Int32 :=
  if (f_1 ((n &&& (65535 : Int32)).toUInt32.toUInt16.toUInt32.toInt32)) = (f_2 ((n &&& (65535 : Int32)).toUInt32.toUInt16.toUInt32.toInt32)) then (1 : Int32)
  else (0 : Int32)
set_option maxRecDepth 65536 in
set_option maxHeartbeats 40000000 in
theorem con_0 (l : Launch) (Z : State) (a0 : Array Value) (hw : ∀ d ∈ tables_1, d.before a0 Z = true) (n : Int32) (h0 : Heap) : Con l Z x code maxLocals ret room_1 #[(.int n)] h0 (Pure h0 (some (.int (f_0 n)))) := by
  refine Con.intro pf_0 ?_
  intro p e s m below meth c s₁ hx hby hml hown hnm hret hlk hZ X0 e0
  refine Ends.cast (ef_0 m n) ?_
  refine Ends.by (fun _ => XS.iloadN X0.here hx rfl (hb hby at_0) rfl) ?_
  show Ends p e below _ s₁ (mkF m 1 #[.val (.int n), .unset] [(.int n)])
  refine Ends.by (X0.ldcInt hx hown (mvT hZ (hw _ (List.mem_of_getElem? (i := 0) rfl))) (g := (mkF m 1 #[.val (.int n), .unset] [(.int n)])) rfl (hb hby at_1)) ?_
  show Ends p e below _ s₁ (mkF m 3 #[.val (.int n), .unset] [(.int (65535 : Int32)), (.int n)])
  refine Ends.by (fun _ => XS.iand X0.here hx rfl (hb hby at_3) rfl) ?_
  show Ends p e below _ s₁ (mkF m 4 #[.val (.int n), .unset] [(.int (n &&& (65535 : Int32)))])
  refine Ends.by (fun _ => XS.i2c X0.here hx rfl (hb hby at_4) rfl) ?_
  show Ends p e below _ s₁ (mkF m 5 #[.val (.int n), .unset] [(.int ((n &&& (65535 : Int32)).toUInt32.toUInt16.toUInt32.toInt32))])
  refine Ends.by (fun _ => XS.istoreN X0.here hx rfl (hb hby at_5) rfl (l' := #[.val (.int n), .val (.int ((n &&& (65535 : Int32)).toUInt32.toUInt16.toUInt32.toInt32))]) rfl) ?_
  show Ends p e below _ s₁ (mkF m 6 #[.val (.int n), .val (.int ((n &&& (65535 : Int32)).toUInt32.toUInt16.toUInt32.toInt32))] [])
  refine Ends.by (fun _ => XS.iloadN X0.here hx rfl (hb hby at_6) rfl) ?_
  show Ends p e below _ s₁ (mkF m 7 #[.val (.int n), .val (.int ((n &&& (65535 : Int32)).toUInt32.toUInt16.toUInt32.toInt32))] [(.int ((n &&& (65535 : Int32)).toUInt32.toUInt16.toUInt32.toInt32))])
  refine Ends.callS (argsL := [(.int ((n &&& (65535 : Int32)).toUInt32.toUInt16.toUInt32.toInt32))]) (rest := []) X0 hx hZ hown (hw _ (List.mem_of_getElem? (i := 1) rfl)) (hw _ (List.mem_of_getElem? (i := 2) rfl)) (hw _ (List.mem_of_getElem? (i := 3) rfl)) (hw _ (List.mem_of_getElem? (i := 4) rfl)) (by decide) (con_1 l Z a0 hw ((n &&& (65535 : Int32)).toUInt32.toUInt16.toUInt32.toInt32) h0) e0 (by rw [hml]; rfl) (hb hby at_7) (lenOf pd_1 rfl) 0 (Nat.le_of_eq rfl) (by decide) (by decide) (by decide) (by decide) ?_
  intro v T1 L1 X1 hQ
  obtain ⟨rfl, e1, rfl⟩ := hQ
  rw [List.append_nil] at X1
  show Ends p e below _ T1 (mkF m 10 #[.val (.int n), .val (.int ((n &&& (65535 : Int32)).toUInt32.toUInt16.toUInt32.toInt32))] [(.int (f_1 ((n &&& (65535 : Int32)).toUInt32.toUInt16.toUInt32.toInt32)))])
  refine Ends.by (fun _ => XS.iloadN X1.here hx rfl (hb hby at_10) rfl) ?_
  show Ends p e below _ T1 (mkF m 11 #[.val (.int n), .val (.int ((n &&& (65535 : Int32)).toUInt32.toUInt16.toUInt32.toInt32))] [(.int ((n &&& (65535 : Int32)).toUInt32.toUInt16.toUInt32.toInt32)), (.int (f_1 ((n &&& (65535 : Int32)).toUInt32.toUInt16.toUInt32.toInt32)))])
  refine Ends.callS (argsL := [(.int ((n &&& (65535 : Int32)).toUInt32.toUInt16.toUInt32.toInt32))]) (rest := [(.int (f_1 ((n &&& (65535 : Int32)).toUInt32.toUInt16.toUInt32.toInt32)))]) X1 hx hZ hown (hw _ (List.mem_of_getElem? (i := 5) rfl)) (hw _ (List.mem_of_getElem? (i := 6) rfl)) (hw _ (List.mem_of_getElem? (i := 7) rfl)) (hw _ (List.mem_of_getElem? (i := 8) rfl)) (by decide) (con_2 l Z a0 hw ((n &&& (65535 : Int32)).toUInt32.toUInt16.toUInt32.toInt32) h0) e1 (by rw [hml]; rfl) (hb hby at_11) (lenOf pd_2 rfl) 1 (Nat.le_of_eq rfl) (by decide) (by decide) (by decide) (by decide) ?_
  intro v T2 L2 X2 hQ
  obtain ⟨rfl, e2, rfl⟩ := hQ
  rw [List.append_nil] at X2
  show Ends p e below _ T2 (mkF m 14 #[.val (.int n), .val (.int ((n &&& (65535 : Int32)).toUInt32.toUInt16.toUInt32.toInt32))] [(.int (f_2 ((n &&& (65535 : Int32)).toUInt32.toUInt16.toUInt32.toInt32))), (.int (f_1 ((n &&& (65535 : Int32)).toUInt32.toUInt16.toUInt32.toInt32)))])
  refine Ends.icmp X2 hx (hb hby at_14) 21 (by decide) (by decide) (fun q => ?_) (fun q => ?_)
  · have c14 : ¬ ((f_1 ((n &&& (65535 : Int32)).toUInt32.toUInt16.toUInt32.toInt32)) = (f_2 ((n &&& (65535 : Int32)).toUInt32.toUInt16.toUInt32.toInt32))) := own_ne.1 q
    show Ends p e below _ T2 (mkF m 21 #[.val (.int n), .val (.int ((n &&& (65535 : Int32)).toUInt32.toUInt16.toUInt32.toInt32))] [])
    refine Ends.by (fun _ => XS.iconst X2.here hx rfl (hb hby at_21)) ?_
    show Ends p e below _ T2 (mkF m 22 #[.val (.int n), .val (.int ((n &&& (65535 : Int32)).toUInt32.toUInt16.toUInt32.toInt32))] [(.int (0 : Int32))])
    exact Ends.retZ X2 hx hlk hret (hb hby at_22) (by first | decide | (simp; done) | exact w01) (by decide) (by decide) ⟨by rw [f_0, if_neg c14], e2, rfl⟩
  · have c14 : (f_1 ((n &&& (65535 : Int32)).toUInt32.toUInt16.toUInt32.toInt32)) = (f_2 ((n &&& (65535 : Int32)).toUInt32.toUInt16.toUInt32.toInt32)) := own_ne.2 q
    show Ends p e below _ T2 (mkF m 17 #[.val (.int n), .val (.int ((n &&& (65535 : Int32)).toUInt32.toUInt16.toUInt32.toInt32))] [])
    refine Ends.by (fun _ => XS.iconst X2.here hx rfl (hb hby at_17)) ?_
    show Ends p e below _ T2 (mkF m 18 #[.val (.int n), .val (.int ((n &&& (65535 : Int32)).toUInt32.toUInt16.toUInt32.toInt32))] [(.int (1 : Int32))])
    refine Ends.by (fun _ => XS.goto X2.here hx rfl (pc0 := 18) (pc' := 22) rfl (hb hby at_18) (by decide) (by decide)) ?_
    show Ends p e below _ T2 (mkF m 22 #[.val (.int n), .val (.int ((n &&& (65535 : Int32)).toUInt32.toUInt16.toUInt32.toInt32))] [(.int (1 : Int32))])
    exact Ends.retZ X2 hx hlk hret (hb hby at_22) (by first | decide | (simp; done) | exact w01) (by decide) (by decide) ⟨by rw [f_0, if_pos c14], e2, rfl⟩
theorem own_same (u : Int32) : f_1 u = f_2 u := by
  by_cases h : 48 ≤ u.toInt ∧ u.toInt ≤ 57
  · have q : u.toInt = 48 ∨ u.toInt = 49 ∨ u.toInt = 50 ∨ u.toInt = 51 ∨ u.toInt = 52 ∨ u.toInt = 53 ∨ u.toInt = 54 ∨ u.toInt = 55 ∨ u.toInt = 56 ∨ u.toInt = 57 := by omega
    rcases q with q | q | q | q | q | q | q | q | q | q
    · obtain rfl : u = (48 : Int32) := Int32.toInt_inj.mp (q.trans (by decide))
      rfl
    · obtain rfl : u = (49 : Int32) := Int32.toInt_inj.mp (q.trans (by decide))
      rfl
    · obtain rfl : u = (50 : Int32) := Int32.toInt_inj.mp (q.trans (by decide))
      rfl
    · obtain rfl : u = (51 : Int32) := Int32.toInt_inj.mp (q.trans (by decide))
      rfl
    · obtain rfl : u = (52 : Int32) := Int32.toInt_inj.mp (q.trans (by decide))
      rfl
    · obtain rfl : u = (53 : Int32) := Int32.toInt_inj.mp (q.trans (by decide))
      rfl
    · obtain rfl : u = (54 : Int32) := Int32.toInt_inj.mp (q.trans (by decide))
      rfl
    · obtain rfl : u = (55 : Int32) := Int32.toInt_inj.mp (q.trans (by decide))
      rfl
    · obtain rfl : u = (56 : Int32) := Int32.toInt_inj.mp (q.trans (by decide))
      rfl
    · obtain rfl : u = (57 : Int32) := Int32.toInt_inj.mp (q.trans (by decide))
      rfl
  · have n_ : ∀ k : Int32, 48 ≤ k.toInt ∧ k.toInt ≤ 57 → ¬ u = k := fun k hk z => h (z ▸ hk)
    have hz : f_1 u = 0 := by
      unfold f_1
      by_cases w : u < (48 : Int32)
      · rw [if_pos w]
      · rw [if_neg w, if_pos]
        rw [Int32.lt_iff_toInt_lt] at w ⊢
        have t1 : (48 : Int32).toInt = 48 := by decide
        have t2 : (57 : Int32).toInt = 57 := by decide
        omega
    rw [hz, f_2, if_neg (n_ 48 (by decide)), if_neg (n_ 49 (by decide)), if_neg (n_ 50 (by decide)), if_neg (n_ 51 (by decide)), if_neg (n_ 52 (by decide)), if_neg (n_ 53 (by decide)), if_neg (n_ 54 (by decide)), if_neg (n_ 55 (by decide)), if_neg (n_ 56 (by decide)), if_neg (n_ 57 (by decide))]
theorem own_law (n : Int32) : f_0 n = 1 := by
  rw [f_0, if_pos (own_same _)]
theorem law_met (l : Launch) (Z : State) (a0 : Array Value) (hw : ∀ d ∈ tables_1, d.before a0 Z = true) (n : Int32) (h0 : Heap) (n0 : Nat) (Z0 : n0 ≤ h0.size) : Con l Z x code maxLocals ret room_1 #[(.int n)] h0 (fun v h L => v = some (.int 1) ∧ Fr n0 L) :=
  (con_0 l Z a0 hw n h0).mono fun v h L q => ⟨q.1.trans (by rw [own_law]), by rw [q.2.2]; exact Fr.nil n0⟩
set_option maxRecDepth 65536 in
set_option maxHeartbeats 40000000 in
theorem comes_1 {Post : Tables → Env → Array Value → State → Outcome → State → Prop} (hpost : ∀ tb e args s v u, (limb_1_1.after args s (.returned v) u = true ∧ limb_1_2.after args s (.returned v) u = true) → FrameEnd s (.returned v) u (Jvm.fieldLocs frame_1_writes args s ++ Jvm.arrayLocs frame_1_arrays args s ++ Jvm.staticLocs frame_1_statics s) 0 0 → Post tb e args s (.returned v) u) :
    ArmFor flags0 classFile x code maxLocals ret World_1 tables_1 room_1 Calls_1 rest_1 Pre_1 Post := by
  intro l hfl _ _ p e ha hc hk s m args below hf hA hF happ hP
  obtain ⟨hcalls, hrest, hpre⟩ := hP
  obtain ⟨-, -, -, hnamed, -, -, -, hat⟩ := (Spec.applies_iff hf).mp happ
  obtain ⟨hg, hn⟩ := and_e (Cond.before_iff.mp (show (Jvm.Cond.and given_1 narrow_1).before args s = true from hpre))
  obtain ⟨hcount, g0⟩ := and_e hg
  obtain ⟨w0, rfl⟩ : ∃ w0 : Value, args = #[w0] := by
    have hs : args.size = 1 := by simpa [Cond.value, given_1] using hcount
    obtain ⟨L⟩ := args
    match L, hs with
    | [w0], _ => exact ⟨w0, rfl⟩
  have hw := fun d (hd : d ∈ tables_1) => atoms_spec (ws := Jvm.Cond.code x code maxLocals ret :: tables_1) hat d (List.mem_cons_of_mem _ hd)
  obtain ⟨i0, ei0⟩ := is_v g0
  obtain rfl : w0 = (.int i0) := Option.some.inj ei0
  obtain ⟨n, o, h1, h2, h3, _, L, rfl, ⟨rfl, N⟩, hq⟩ := law_met l s _ hw i0 s.heap s.heap.size (Nat.le_refl _) tables_1 p e ha hc hk s m _ below hf ((Spec.applies_iff_loose hf).mp happ).1 ⟨rfl, State.Warmed39.refl s, rfl⟩ trivial
  refine ⟨n, _, h1, h2, h3, hpost _ _ _ _ _ _ ⟨Cond.after_iff.mpr rfl, Cond.after_iff.mpr (eq_i res_at (Term.int_eval (1)) rfl)⟩ ⟨hq.1, hq.2.1, (hq.2.2.sift fun y hy => Or.inr (N y hy)).mono (by decide) (by decide)⟩⟩
theorem main_1_1 : Claimed_1_1 := comes_1 fun _ _ _ _ _ _ h hF => ⟨h.1, hF⟩
theorem main_1_2 : Claimed_1_2 := comes_1 fun _ _ _ _ _ _ h hF => ⟨h.2, hF⟩
end Jvm.Pilot.@@N@@
namespace Jvm.Pilot.@@N@@
open Jvm Jvm.ClassFile Sem Op Lib Jvm.Free Jvm.Stand Jvm.Pilot.@@N@@.Jvm.D
/-! MADE BY PROGRAM (witnessworld.py) out of the Statement's table words and the real class files: 9 classes; the members and pool entries that the words name. The judged class is class 1, her method 2. -/
namespace start1
open Jvm.ClassFile
def u (s : String) : CpInfo := .utf8 (stringToUtf16 s)
/-- a pool by its gaps: so many unusable entries, then the entry; so many at the end -/
def gap : Nat → List CpInfo → List CpInfo
  | 0, r => r
  | n + 1, r => .unusable :: gap n r
def poolList (es : List (Nat × CpInfo)) (last : Nat) : List CpInfo := es.foldr (fun e r => gap e.1 (e.2 :: r)) (gap last [])
def pool (es : List (Nat × CpInfo)) (last : Nat) : Array CpInfo := ⟨poolList es last⟩
def fileOf (pool : Array CpInfo) (this : Nat) (attrs : Array Attribute := #[]) (ms : Array MethodInfo := #[]) (fl : Nat := 33) (sup : Nat := 0) (ifs : Array Nat := #[]) (fds : Array FieldInfo := #[]) : ClassFile where
  minorVersion := 0
  majorVersion := 65
  constantPool := pool
  accessFlags := fl
  thisClass := this
  superClass := sup
  interfaces := ifs
  fields := fds
  methods := ms
  attributes := attrs
def plain (name : String) (sup : Option ClassId) : Class where
  name := name
  kind := .ordinary
  loader := none
  accessFlags := 33
  super := sup
  interfaces := #[]
  cf := none
  fields := #[]
  methods := #[]
  instanceTypes := #[]
  staticTypes := #[]
  resolved := #[]
  callSites := []
  init := .initialized
  statics := none
  mirror := none

def pool0 : Array CpInfo := pool [(5, u "<init>"), (0, u "()V"), (1, .class_ 10), (1, u "java/lang/Object")] 113

def k0m0 : Method := { name := "<init>", desc := "()V", sig := { parameters := [], returnType := none }, accessFlags := 1, code := none }
/-- java/lang/Object -/
def k0 : Class := { plain "java/lang/Object" none with
  accessFlags := 33
  interfaces := #[]
  cf := some (fileOf pool0 8 #[] #[{ accessFlags := 1, nameIndex := 5, descriptorIndex := 6, attributes := #[] }] 33 0 #[] #[])
  fields := #[]
  methods := #[k0m0]
  instanceTypes := #[]
  staticTypes := #[]
  resolved := Array.replicate 124 none
  statics := none }

def pool1 : Array CpInfo := pool [(2, .class_ 4), (1, u "java/lang/Object"), (0, u "<init>"), (0, u "()V"), (0, .integer 65535), (0, .methodref 9 10), (0, .class_ 11), (0, .nameAndType 12 13), (0, u "com/example/tiny_pbx/tinypbx/sip/SipParser"), (0, u "isDigit"), (0, u "(C)Z"), (0, .methodref 15 16), (0, .class_ 17), (0, .nameAndType 18 13), (0, u "com/example/tiny_pbx/tinypbx/sip/SipParserIsDigitPinLaw"), (0, u "oneOfTheTenDigits"), (3, u "law"), (0, u "(I)Z")] 2

def k1m0 : Method := { name := "<init>", desc := "()V", sig := { parameters := [], returnType := none }, accessFlags := 2, code := none }
def k1c1 : Code := { maxStack := 2, maxLocals := 1, code := method_2_code, exceptionTable := #[], attributes := #[] }
def k1m1 : Method := { name := "oneOfTheTenDigits", desc := "(C)Z", sig := { parameters := [.char], returnType := some .boolean }, accessFlags := 10, code := some k1c1 }
def k1c2 : Code := { maxStack := 2, maxLocals := 2, code := code, exceptionTable := #[], attributes := #[] }
def k1m2 : Method := { name := "law", desc := "(I)Z", sig := { parameters := [.int], returnType := some .boolean }, accessFlags := 9, code := some k1c2 }
/-- com/example/tiny_pbx/tinypbx/sip/SipParserIsDigitPinLaw -/
def k1 : Class := { plain "com/example/tiny_pbx/tinypbx/sip/SipParserIsDigitPinLaw" (some 0) with
  accessFlags := 49
  interfaces := #[]
  cf := some (fileOf pool1 15 #[] #[{ accessFlags := 2, nameIndex := 5, descriptorIndex := 6, attributes := #[] }, { accessFlags := 10, nameIndex := 18, descriptorIndex := 13, attributes := #[] }, { accessFlags := 9, nameIndex := 22, descriptorIndex := 23, attributes := #[] }] 49 2 #[] #[])
  fields := #[]
  methods := #[k1m0, k1m1, k1m2]
  instanceTypes := #[]
  staticTypes := #[]
  resolved := Array.replicate 26 none
  statics := none }

def pool2 : Array CpInfo := pool [(1, .class_ 2), (0, u "com/example/tiny_pbx/tinypbx/sip/SipParser"), (1, .class_ 6), (1, u "java/lang/Object"), (0, u "<init>"), (0, u "()V"), (1, .class_ 12), (1, u "com/example/tiny_pbx/tinypbx/sip/SipParser$Head"), (5, u "Ljava/util/List;"), (163, u "isDigit"), (0, u "(C)Z"), (25, u "COUNTED"), (73, u "REQUIRED"), (3, u "SINGLE"), (147, u "TOKEN_MARKS"), (0, u "Ljava/lang/String;"), (1, u "TOKEN"), (2, u "QUOTED_STRING"), (2, u "URI_MARKS"), (0, u "VERSION"), (0, u "LINE_BREAKS"), (2, u "WILDCARD")] 65

def k2m0 : Method := { name := "<init>", desc := "()V", sig := { parameters := [], returnType := none }, accessFlags := 2, code := none }
def k2c1 : Code := { maxStack := 2, maxLocals := 1, code := prog_49_method_24_code, exceptionTable := #[], attributes := #[] }
def k2m1 : Method := { name := "isDigit", desc := "(C)Z", sig := { parameters := [.char], returnType := some .boolean }, accessFlags := 8, code := some k2c1 }
/-- com/example/tiny_pbx/tinypbx/sip/SipParser -/
def k2 : Class := { plain "com/example/tiny_pbx/tinypbx/sip/SipParser" (some 0) with
  accessFlags := 49
  interfaces := #[]
  cf := some (fileOf pool2 1 #[.nestMembers #[10]] #[{ accessFlags := 2, nameIndex := 7, descriptorIndex := 8, attributes := #[] }, { accessFlags := 8, nameIndex := 182, descriptorIndex := 183, attributes := #[] }] 49 4 #[] #[{ accessFlags := 26, nameIndex := 435, descriptorIndex := 436, attributes := #[] }, { accessFlags := 24, nameIndex := 438, descriptorIndex := 436, attributes := #[] }, { accessFlags := 24, nameIndex := 441, descriptorIndex := 436, attributes := #[] }, { accessFlags := 26, nameIndex := 444, descriptorIndex := 436, attributes := #[] }, { accessFlags := 26, nameIndex := 445, descriptorIndex := 436, attributes := #[] }, { accessFlags := 26, nameIndex := 446, descriptorIndex := 436, attributes := #[] }, { accessFlags := 26, nameIndex := 283, descriptorIndex := 18, attributes := #[] }, { accessFlags := 26, nameIndex := 287, descriptorIndex := 18, attributes := #[] }, { accessFlags := 26, nameIndex := 209, descriptorIndex := 18, attributes := #[] }, { accessFlags := 26, nameIndex := 449, descriptorIndex := 436, attributes := #[] }])
  fields := #[{ name := "TOKEN_MARKS", type := (.object "java/lang/String"), accessFlags := 26, slot := 0, constantValue := 0 }, { name := "TOKEN", type := (.object "java/lang/String"), accessFlags := 24, slot := 1, constantValue := 0 }, { name := "QUOTED_STRING", type := (.object "java/lang/String"), accessFlags := 24, slot := 2, constantValue := 0 }, { name := "URI_MARKS", type := (.object "java/lang/String"), accessFlags := 26, slot := 3, constantValue := 0 }, { name := "VERSION", type := (.object "java/lang/String"), accessFlags := 26, slot := 4, constantValue := 0 }, { name := "LINE_BREAKS", type := (.object "java/lang/String"), accessFlags := 26, slot := 5, constantValue := 0 }, { name := "REQUIRED", type := (.object "java/util/List"), accessFlags := 26, slot := 6, constantValue := 0 }, { name := "SINGLE", type := (.object "java/util/List"), accessFlags := 26, slot := 7, constantValue := 0 }, { name := "COUNTED", type := (.object "java/util/List"), accessFlags := 26, slot := 8, constantValue := 0 }, { name := "WILDCARD", type := (.object "java/lang/String"), accessFlags := 26, slot := 9, constantValue := 0 }]
  methods := #[k2m0, k2m1]
  instanceTypes := #[]
  staticTypes := #[(.object "java/lang/String"), (.object "java/lang/String"), (.object "java/lang/String"), (.object "java/lang/String"), (.object "java/lang/String"), (.object "java/lang/String"), (.object "java/util/List"), (.object "java/util/List"), (.object "java/util/List"), (.object "java/lang/String")]
  resolved := Array.replicate 515 none
  statics := none }

def pool3 : Array CpInfo := pool [(1, u "java/lang/Cloneable"), (0, .class_ 1), (0, u "java/lang/Object"), (0, .class_ 3)] 3

/-- java/lang/Cloneable -/
def k3 : Class := { plain "java/lang/Cloneable" (some 0) with
  accessFlags := 1537
  interfaces := #[]
  cf := some (fileOf pool3 2 #[] #[] 1537 4 #[] #[])
  fields := #[]
  methods := #[]
  instanceTypes := #[]
  staticTypes := #[]
  resolved := Array.replicate 8 none
  statics := none }

def pool4 : Array CpInfo := pool [(1, u "java/io/Serializable"), (0, .class_ 1), (0, u "java/lang/Object"), (0, .class_ 3)] 3

/-- java/io/Serializable -/
def k4 : Class := { plain "java/io/Serializable" (some 0) with
  accessFlags := 1537
  interfaces := #[]
  cf := some (fileOf pool4 2 #[] #[] 1537 4 #[] #[])
  fields := #[]
  methods := #[]
  instanceTypes := #[]
  staticTypes := #[]
  resolved := Array.replicate 8 none
  statics := none }

/-- the primitive byte -/
def k5 : Class := { plain "byte" none with kind := .primitive 'B', accessFlags := 0x411 }
/-- [B -/
def k6 : Class := { plain "[B" (some 0) with kind := .array 5 .byte, interfaces := #[3, 4], accessFlags := 1041 }

/-- the primitive int -/
def k7 : Class := { plain "int" none with kind := .primitive 'I', accessFlags := 0x411 }
/-- [I -/
def k8 : Class := { plain "[I" (some 0) with kind := .array 7 .int, interfaces := #[3, 4], accessFlags := 1041 }

def heap : Heap := #[]
def classes : Array Class := #[k0, k1, k2, k3, k4, k5, k6, k7, k8]
def interned : List (Array UInt16 × Addr) := []
def slotsUsed : Nat := 0
def theMethod : MethodId := ⟨1, 2⟩
def args0 : Array Value := #[.int 5]
def aboutOver (below : List Frame) : State where
  vm := { classes := classes, interned := interned.toArray }
  heap := heap
  slotsUsed := slotsUsed
  threads := #[{ frames := .invoking theMethod args0 :: below }]
def below0 : List Frame := [.native { method := ⟨0, 0⟩, args := #[] }]
def about1 : State := aboutOver below0
def p0 : Program := .bare "" "" ""
def e0 : Env := launch0.env 0 0 0
theorem w_frames : about1.frames = Frame.invoking theMethod args0 :: below0 := rfl
set_option maxRecDepth 65536 in
theorem w_args : argsFit about1.vm theMethod args0 = true := by decide +kernel
set_option maxRecDepth 65536 in
theorem w_heap : heapFits about1 = true := by decide +kernel
set_option maxRecDepth 65536 in
theorem w_runnable : about1.curStatus? = some .runnable := by decide +kernel
set_option maxRecDepth 65536 in
theorem w_alone : about1.alone = true := by decide +kernel
set_option maxRecDepth 65536 in
theorem w_named : about1.methodNamed? x = some theMethod := by decide +kernel
set_option maxRecDepth 65536 in
theorem w_hears : about1.hears theMethod below0 = true := by decide +kernel
set_option maxRecDepth 65536 in
theorem w_ripe : about1.ripe theMethod args0 below0 = true := by decide +kernel
theorem w_running : about1.status = .running := rfl
set_option maxRecDepth 65536 in
theorem w_room : about1.hasRoom e0.platform room_1 = true :=
  launch0.hasRoom_least _ room_1 (by decide +kernel) (by decide +kernel) (by decide +kernel) (by decide +kernel) (by decide +kernel) (by decide +kernel)
theorem allAtoms_all (ts : List Jvm.Cond) (a : Array Jvm.Value) (st : Jvm.State) : (allAtoms ts).before a st = ts.all (fun c => c.before a st) := by
  induction ts with
  | nil => rfl
  | cons c t ih =>
    show (Jvm.Cond.and c (allAtoms t)).before a st = _
    rw [Jvm.Cond.before_and, ih, List.all_cons]
def words1 : List Jvm.Cond := Jvm.Cond.code x code maxLocals ret :: tables_1
/-- a 'code' word, met by the world's own term for the bytes: nothing is compared byte by byte -/
theorem code_word {y : MethodName} {bytes : ByteArray} {mx : Nat} {rt : Option FieldType} {a : Array Value} {s : State} {m : MethodId} {meth : Method} {c : Code} (h1 : s.methodNamed? y = some m) (h2 : s.vm.method? m = some meth) (h3 : meth.code = some c) (h4 : c.code = bytes)
    (h5 : (c.maxLocals == mx && c.exceptionTable.isEmpty && decide (c.maxStack ≤ mostOperands) && decide (meth.sig.returnType = rt) && !meth.locks && decide (parseMethodDescriptor y.desc = some meth.sig)) = true) : (Jvm.Cond.code y bytes mx rt).before a s = true := by
  simp only [Bool.and_eq_true, beq_iff_eq, Bool.not_eq_true', decide_eq_true_eq] at h5
  obtain ⟨⟨⟨⟨⟨g1, g2⟩, g3⟩, g4⟩, g5⟩, g6⟩ := h5
  simp [Cond.before, Cond.holds, Cond.value, h1, h2, h3, h4, g1, g2, g3, g4, g5, g6]
def isCode : Jvm.Cond → Bool
  | .code _ _ _ _ => true
  | _ => false
theorem all_split {L : List Jvm.Cond} {P : Jvm.Cond → Bool} (h1 : L.all (fun c => isCode c || P c) = true) (h2 : ∀ c ∈ L.filter isCode, P c = true) : L.all P = true := by
  refine List.all_eq_true.mpr fun c hc => ?_
  have h := List.all_eq_true.mp h1 c hc
  rcases Bool.eq_false_or_eq_true (isCode c) with hi | hi
  · exact h2 c (List.mem_filter.mpr ⟨hc, hi⟩)
  · simpa [hi] using h
set_option maxRecDepth 65536 in
theorem w_c0 : (Jvm.Cond.code x code maxLocals ret).before args0 about1 = true := code_word (m := ⟨1, 2⟩) (meth := k1m2) (c := k1c2) (by decide +kernel) rfl rfl rfl (by decide +kernel)
set_option maxRecDepth 65536 in
theorem w_c1 : (Jvm.Cond.code ({ cls := "com/example/tiny_pbx/tinypbx/sip/SipParser", name := "isDigit", desc := "(C)Z" } : Jvm.MethodName) prog_49_method_24_code (1 : Nat) (Option.some Jvm.ClassFile.FieldType.boolean)).before args0 about1 = true := code_word (m := ⟨2, 1⟩) (meth := k2m1) (c := k2c1) (by decide +kernel) rfl rfl rfl (by decide +kernel)
set_option maxRecDepth 65536 in
theorem w_c2 : (Jvm.Cond.code ({ cls := "com/example/tiny_pbx/tinypbx/sip/SipParserIsDigitPinLaw", name := "oneOfTheTenDigits", desc := "(C)Z" } : Jvm.MethodName) method_2_code (1 : Nat) (Option.some Jvm.ClassFile.FieldType.boolean)).before args0 about1 = true := code_word (m := ⟨1, 1⟩) (meth := k1m1) (c := k1c1) (by decide +kernel) rfl rfl rfl (by decide +kernel)
def codes1 : List Jvm.Cond := [Jvm.Cond.code x code maxLocals ret, Jvm.Cond.code ({ cls := "com/example/tiny_pbx/tinypbx/sip/SipParser", name := "isDigit", desc := "(C)Z" } : Jvm.MethodName) prog_49_method_24_code (1 : Nat) (Option.some Jvm.ClassFile.FieldType.boolean), Jvm.Cond.code ({ cls := "com/example/tiny_pbx/tinypbx/sip/SipParserIsDigitPinLaw", name := "oneOfTheTenDigits", desc := "(C)Z" } : Jvm.MethodName) method_2_code (1 : Nat) (Option.some Jvm.ClassFile.FieldType.boolean)]
set_option maxRecDepth 65536 in
theorem codes_eq : words1.filter isCode = codes1 := rfl
theorem w_codes : ∀ c ∈ words1.filter isCode, c.before args0 about1 = true := by
  rw [codes_eq]
  intro c hc
  simp only [codes1, List.mem_cons, List.not_mem_nil, or_false] at hc
  rcases hc with rfl | rfl | rfl
  · exact w_c0
  · exact w_c1
  · exact w_c2
set_option maxRecDepth 65536 in
theorem w_t1 : words1.all (fun c => isCode c || c.before args0 about1) = true := by decide +kernel
theorem w_tables : (allAtoms (Jvm.Cond.code x code maxLocals ret :: tables_1)).before args0 about1 = true := by
  rw [allAtoms_all]
  show words1.all (fun c => c.before args0 about1) = true
  refine all_split ?_ w_codes
  rw [w_t1]
set_option maxRecDepth 65536 in
theorem w_case : (Jvm.Cond.and given_1 narrow_1).before args0 about1 = true := by decide +kernel
theorem w_applies : (headSpec (Jvm.Cond.code x code maxLocals ret :: tables_1) room_1).applies x e0.platform about1 = true :=
  (Spec.applies_iff w_frames).mpr ⟨w_running, w_runnable, w_alone, w_named, w_hears, w_ripe, w_room, w_tables⟩
theorem atStart : AtStart classFile x code maxLocals ret World_1 tables_1 room_1 Calls_1 rest_1 Pre_1 launch0 p0 e0 about1 theMethod args0 below0 :=
  ⟨lists_1, trivial, launch0.admits_env _ _ _, launch0.least_env, fairChoices_fair.cas, fairChoices_fair.clock, w_frames, w_args, w_heap, w_applies, trivial, trivial, w_case⟩
end start1
theorem witness_1 : WitnessClaimed_1 := ⟨start1.p0, start1.e0, start1.about1, start1.theMethod, start1.args0, start1.below0, start1.atStart⟩
end Jvm.Pilot.@@N@@
