import JvmDerived
import JvmDerived.Pilot.@@N@@Statement
import JvmDerived.Pilot.@@N@@Code
set_option linter.unusedVariables false
set_option linter.unusedSimpArgs false
namespace Jvm.Pilot.@@N@@
open Jvm Jvm.ClassFile Sem Op Lib Jvm.Free Jvm.Stand Jvm.LawKit Jvm.RoadKit Bundle Jvm.Pilot.@@N@@.Jvm.D
section Own
variable {p : Program} {l : Launch} {e : Env} {R : Room} {s : State} {m : MethodId} {args : Array Value} {below : List Frame} {meth : Method} {c : Code} {T T' Z : State} {locs : List Loc} {cells slots : Nat} {P : Outcome → State → Prop} {a0 : Array Value} {h : Heap}
/-- from the frame g over the state T the run ends, and P holds of the end -/
def Ends (p : Program) (e : Env) (below : List Frame) (P : Outcome → State → Prop) (T : State) (g : JFrame) : Prop :=
  ∃ s₂ o, Steps p.tables e below (T.setTop g) s₂ ∧ s₂.status = .running ∧ Ended s₂ below o ∧ P o s₂
theorem Ends.by {g g' : JFrame} (h : ∀ t, Steps p.tables e below (T'.setTop g') t → Steps p.tables e below (T.setTop g) t) (k : Ends p e below P T' g') : Ends p e below P T g :=
  let ⟨s₂, o, h1, r⟩ := k; ⟨s₂, o, h _ h1, r⟩
theorem Ends.on {g g' : JFrame} (h : Steps p.tables e below (T.setTop g) (T'.setTop g')) (k : Ends p e below P T' g') : Ends p e below P T g :=
  let ⟨s₂, o, h1, r⟩ := k; ⟨s₂, o, h.trans h1, r⟩
/-- the end: it returned v, Q holds of v, the heap and the places written; the frame -/
def Fini (s : State) (Q : Option Value → Heap → List Loc → Prop) (rc rs : Nat) : Outcome → State → Prop :=
  fun o U' => ∃ v L, o = .returned v ∧ Q v U'.heap L ∧ FrameEnd s o U' L rc rs
/-- a body's contract: from these arguments over the heap h0 it returns with Q -/
def Con (l : Launch) (Z : State) (y : MethodName) (bytes : ByteArray) (maxL : Nat) (ret : Option FieldType) (rm : Room) (as' : Array Value) (h0 : Heap) (Q : Option Value → Heap → List Loc → Prop) : Prop :=
  ∀ ws : List Jvm.Cond, MetFree l y (head1 (Jvm.Cond.code y bytes maxL ret :: ws) rm) (fun a U => a = as' ∧ Z.Warmed39 U.vm ∧ U.heap = h0) (fun _ _ _ _ _ => True) (fun _ U o U' => ∃ v L, o = .returned v ∧ Q v U'.heap L ∧ FrameEnd U o U' L rm.cells rm.slots)
theorem Con.intro {y : MethodName} {bytes : ByteArray} {maxL : Nat} {ret : Option FieldType} {rm : Room} {as' : Array Value} {h0 : Heap} {Q : Option Value → Heap → List Loc → Prop} (hpl : plainFor y = true)
    (body : ∀ (p : Program) (e : Env) (s : State) (m : MethodId) (below : List Frame) (meth : Method) (c : Code) (s₁ : State), p.tables.exec = Jvm.exec → c.code = bytes → c.maxLocals = maxL → s.vm.findClass y.cls = some m.cls → meth.name = y.name → meth.sig.returnType = ret → meth.locks = false → Z.Warmed39 s.vm →
      Stand p l e rm s m as' below meth c s₁ [] 0 0 → s₁.heap = h0 → Ends p e below (Fini s Q rm.cells rm.slots) s₁ (entryFrame m as' maxL)) : Con l Z y bytes maxL ret rm as' h0 Q := by
  intro ws
  refine MetFree.of_bodySF hpl hisR ?_
  intro p e s m args below meth c s₁ Bd hml0 hP hK
  obtain ⟨rfl, hZ, hh⟩ := hP
  have X0 : Stand p l e rm s m args below meth c s₁ [] 0 0 := Stand.of_body Bd
  have e0 : s₁.heap = h0 := by rw [← hh, Bd.state]; rfl
  exact body p e s m below meth c s₁ Bd.exec Bd.bytes hml0 (findClass_of_methodNamed Bd.named) (name_of_methodNamed Bd.named Bd.method).1 Bd.returns Bd.notSynchronized hZ X0 e0
theorem Con.mono {y : MethodName} {bytes : ByteArray} {maxL : Nat} {ret : Option FieldType} {rm : Room} {as' : Array Value} {h0 : Heap} {Q Q' : Option Value → Heap → List Loc → Prop} (C : Con l Z y bytes maxL ret rm as' h0 Q) (hq : ∀ v h L, Q v h L → Q' v h L) : Con l Z y bytes maxL ret rm as' h0 Q' :=
  fun ws p e ha hc hk s m args below hf happ hP hK => let ⟨n, o, h1, h2, h3, v, L, r1, r2, r3⟩ := C ws p e ha hc hk s m args below hf happ hP hK; ⟨n, o, h1, h2, h3, v, L, r1, hq _ _ _ r2, r3⟩
theorem Ends.cast {g g' : JFrame} (q : g = g') (k : Ends p e below P T g') : Ends p e below P T g := q ▸ k
theorem Ends.retV (X : Stand p l e R s m args below meth c T locs cells slots) (hx : p.tables.exec = Jvm.exec) (hlk : meth.locks = false) {pc : Nat} {Ls : Array Slot} (hret : meth.sig.returnType = none) (hd : decode c.code pc = .ok (.return_, 1))
    {Q : Option Value → Heap → List Loc → Prop} {rc rs : Nat} (hc : cells ≤ rc) (hs : slots ≤ rs) (hQ : Q none T.heap locs) : Ends p e below (Fini s Q rc rs) T (mkF m pc Ls []) := by
  obtain ⟨fs, hr, hrun, hended, hW, hsame⟩ := X.leave (v := none) (fun _ => rfl) hlk
  exact ⟨_, _, X.returnOut hx hret hd hr, hrun, hended, _, _, rfl, hQ, ⟨_, rfl⟩, hW, hsame.mono hc hs⟩
theorem Ends.retI (X : Stand p l e R s m args below meth c T locs cells slots) (hx : p.tables.exec = Jvm.exec) (hlk : meth.locks = false) {pc : Nat} {Ls : Array Slot} {z : Int32} {rest : List Value} (hret : meth.sig.returnType = some .int) (hd : decode c.code pc = .ok (.ireturn, 1))
    {Q : Option Value → Heap → List Loc → Prop} {rc rs : Nat} (hc : cells ≤ rc) (hs : slots ≤ rs) (hQ : Q (some (.int z)) T.heap locs) : Ends p e below (Fini s Q rc rs) T (mkF m pc Ls (.int z :: rest)) := by
  obtain ⟨fs, hr, hrun, hended, hW, hsame⟩ := X.leave (v := some (.int z)) (fun h => by rw [hret] at h; cases h) hlk
  exact ⟨_, _, retOut X hx hret rfl (Or.inl ⟨rfl, Or.inl rfl, z, rfl⟩) hd hr, hrun, hended, _, _, rfl, hQ, ⟨_, rfl⟩, hW, hsame.mono hc hs⟩
theorem Ends.retL (X : Stand p l e R s m args below meth c T locs cells slots) (hx : p.tables.exec = Jvm.exec) (hlk : meth.locks = false) {pc : Nat} {Ls : Array Slot} {z : Int64} {rest : List Value} (hret : meth.sig.returnType = some .long) (hd : decode c.code pc = .ok (.lreturn, 1))
    {Q : Option Value → Heap → List Loc → Prop} {rc rs : Nat} (hc : cells ≤ rc) (hs : slots ≤ rs) (hQ : Q (some (.long z)) T.heap locs) : Ends p e below (Fini s Q rc rs) T (mkF m pc Ls (.long z :: rest)) := by
  obtain ⟨fs, hr, hrun, hended, hW, hsame⟩ := X.leave (v := some (.long z)) (fun h => by rw [hret] at h; cases h) hlk
  exact ⟨_, _, retOut X hx hret rfl (Or.inr (Or.inl ⟨rfl, rfl, z, rfl⟩)) hd hr, hrun, hended, _, _, rfl, hQ, ⟨_, rfl⟩, hW, hsame.mono hc hs⟩
theorem Ends.retA (X : Stand p l e R s m args below meth c T locs cells slots) (hx : p.tables.exec = Jvm.exec) (hlk : meth.locks = false) {pc : Nat} {Ls : Array Slot} {t : FieldType} {a : Addr} {rest : List Value} (hret : meth.sig.returnType = some t) (ht : t.isReference = true) (hn : narrow t (.ref a) = .ref a) (hd : decode c.code pc = .ok (.areturn, 1))
    {Q : Option Value → Heap → List Loc → Prop} {rc rs : Nat} (hc : cells ≤ rc) (hs : slots ≤ rs) (hQ : Q (some (.ref a)) T.heap locs) : Ends p e below (Fini s Q rc rs) T (mkF m pc Ls (.ref a :: rest)) := by
  obtain ⟨fs, hr, hrun, hended, hW, hsame⟩ := X.leave (v := some (.ref a)) (fun h => by rw [hret] at h; cases h) hlk
  exact ⟨_, _, retOut X hx hret hn (Or.inr (Or.inr (Or.inr (Or.inr ⟨rfl, ht, rfl⟩)))) hd hr, hrun, hended, _, _, rfl, hQ, ⟨_, rfl⟩, hW, hsame.mono hc hs⟩
/-- a boolean that is 0 or 1 -/
theorem Ends.retZ (X : Stand p l e R s m args below meth c T locs cells slots) (hx : p.tables.exec = Jvm.exec) (hlk : meth.locks = false) {pc : Nat} {Ls : Array Slot} {z : Int32} {rest : List Value} (hret : meth.sig.returnType = some .boolean) (hd : decode c.code pc = .ok (.ireturn, 1)) (h01 : z &&& 1 = z)
    {Q : Option Value → Heap → List Loc → Prop} {rc rs : Nat} (hc : cells ≤ rc) (hs : slots ≤ rs) (hQ : Q (some (.int z)) T.heap locs) : Ends p e below (Fini s Q rc rs) T (mkF m pc Ls (.int z :: rest)) := by
  obtain ⟨fs, hr, hrun, hended, hW, hsame⟩ := X.leave (v := some (.int z)) (fun h => by rw [hret] at h; cases h) hlk
  have hn : nar .boolean z = z := h01
  refine ⟨_, _, retN X hx (t := .boolean) hret (by simp) hd (fs := fs) ?_, hrun, hended, _, _, rfl, hQ, ⟨_, rfl⟩, hW, hsame.mono hc hs⟩
  rw [hn]; exact hr
/-- a static method by its contract -/
theorem Ends.callS (X : Stand p l e R s m args below meth c T locs cells slots) (hx : p.tables.exec = Jvm.exec) (hZ : Z.Warmed39 s.vm) {own : String} {index : Nat} {y : MethodName} {bytes : ByteArray} {maxL : Nat} {ret : Option FieldType}
    (hown : s.vm.findClass own = some m.cls) (w1 : (Jvm.Cond.methodLink own index y).before a0 Z = true) (w2 : (Jvm.Cond.static y).before a0 Z = true) (w3 : (Jvm.Cond.initialized y.cls).before a0 Z = true) (w4 : (Jvm.Cond.code y bytes maxL ret).before a0 Z = true)
    (hy : y.cls ≠ "java/lang/invoke/MethodHandle" ∧ y.cls ≠ "java/lang/invoke/VarHandle") {rm : Room} {argsL rest : List Value} {Q : Option Value → Heap → List Loc → Prop} (C : Con l Z y bytes maxL ret rm argsL.toArray h Q) (eT : T.heap = h)
    {pc : Nat} {Ls : Array Slot} (hsize : Ls.size = c.maxLocals) (hd : decode c.code pc = .ok (.invokestatic index, 3)) (hlen : ∀ sig, parseMethodDescriptor y.desc = some sig → argsL.length = sig.parameters.length)
    (W : Nat) (hW : (rest.map fun v => v.category).sum ≤ W) (hf : rm.frames + 1 ≤ R.frames) (hl : W + (maxL + 11) + rm.locals ≤ R.locals) (hc : cells + rm.cells ≤ R.cells) (hs : slots + rm.slots ≤ R.slots)
    (k : ∀ v T' L, Stand p l e R s m args below meth c T' (locs ++ L) (cells + rm.cells) (slots + rm.slots) → Q v T'.heap L → Ends p e below P T' (mkF m (pc + 3) Ls (v.toList ++ rest))) :
    Ends p e below P T (mkF m pc Ls (argsL.reverse ++ rest)) := by
  obtain ⟨v, _, ⟨T1, L1, k1, n1⟩, -, X1, ⟨Lc, hQ, l1, y1, z1⟩, st⟩ := Jvm.LawKit.callS X hx (y := y) hown (mvT hZ w1) (mvT hZ w2) (mvT hZ w3) (mvT hZ w4) hy (backOf (W := W) (C []) hZ w4 w3 hf hl) (g := mkF m pc Ls (argsL.reverse ++ rest)) rfl hsize (argsL := argsL) (rest := rest) hlen rfl (by show 2 * 0 + _ ≤ _; omega) hd (fun _ _ => ⟨rfl, eT, hc, hs⟩)
  dsimp only [Pt.U, Pt.locs, Pt.cells, Pt.slots] at X1 l1 y1 z1 st hQ
  subst l1 y1 z1
  exact Ends.by st (k v T1 Lc X1 hQ)
/-- a constructor by its contract -/
theorem Ends.callI (X : Stand p l e R s m args below meth c T locs cells slots) (hx : p.tables.exec = Jvm.exec) (hZ : Z.Warmed39 s.vm) {own : String} {index : Nat} {y : MethodName} {bytes : ByteArray} {maxL : Nat} (hy1 : y.name = "<init>")
    (hown : s.vm.findClass own = some m.cls) (w1 : (Jvm.Cond.methodLink own index y).before a0 Z = true) (w2 : (Jvm.Cond.instanceMethod y).before a0 Z = true) (w3 : (Jvm.Cond.initialized y.cls).before a0 Z = true) (w4 : (Jvm.Cond.code y bytes maxL none).before a0 Z = true)
    (hy : y.cls ≠ "java/lang/invoke/MethodHandle" ∧ y.cls ≠ "java/lang/invoke/VarHandle") {rm : Room} {a : Addr} {argsL rest : List Value} {Q : Option Value → Heap → List Loc → Prop} (C : Con l Z y bytes maxL none rm (.ref a :: argsL).toArray h Q) (eT : T.heap = h)
    {pc : Nat} {Ls : Array Slot} (hsize : Ls.size = c.maxLocals) (hd : decode c.code pc = .ok (.invokespecial index, 3)) (hlen : ∀ sig, parseMethodDescriptor y.desc = some sig → argsL.length = sig.parameters.length)
    (W : Nat) (hW : (rest.map fun v => v.category).sum ≤ W) (hf : rm.frames + 1 ≤ R.frames) (hl : W + (maxL + 11) + rm.locals ≤ R.locals) (hc : cells + rm.cells ≤ R.cells) (hs : slots + rm.slots ≤ R.slots)
    (k : ∀ v T' L, Stand p l e R s m args below meth c T' (locs ++ L) (cells + rm.cells) (slots + rm.slots) → Q v T'.heap L → Ends p e below P T' (mkF m (pc + 3) Ls (v.toList ++ rest))) :
    Ends p e below P T (mkF m pc Ls (argsL.reverse ++ .ref a :: rest)) := by
  obtain ⟨v, _, ⟨T1, L1, k1, n1⟩, -, X1, ⟨Lc, hQ, l1, y1, z1⟩, st⟩ := X.specialBack hx (y := y) hy1 hown (mvT hZ w1) (mvT hZ w2) (mvT hZ w4) hy (backOf (W := W) (C []) hZ w4 w3 hf hl) (g := mkF m pc Ls (argsL.reverse ++ .ref a :: rest)) rfl hsize (Steps.refl _) (a := a) (argsL := argsL) (rest := rest) hlen rfl (by show 2 * 0 + _ ≤ _; omega) hd (fun _ _ => ⟨rfl, eT, hc, hs⟩)
  dsimp only [Pt.U, Pt.locs, Pt.cells, Pt.slots] at X1 l1 y1 z1 st hQ
  subst l1 y1 z1
  exact Ends.on st (k v T1 Lc X1 hQ)
/-- an instance method, declared and selected in the receiver's own class -/
theorem Ends.callV (X : Stand p l e R s m args below meth c T locs cells slots) (hx : p.tables.exec = Jvm.exec) (hZ : Z.Warmed39 s.vm) {own : String} {index : Nat} {y : MethodName} {bytes : ByteArray} {maxL : Nat} {ret : Option FieldType}
    (hown : s.vm.findClass own = some m.cls) (w1 : (Jvm.Cond.methodLink own index y).before a0 Z = true) (wd : (Jvm.Cond.declares y).before a0 Z = true) (w2 : (Jvm.Cond.instanceMethod y).before a0 Z = true) (ws : (Jvm.Cond.selects y.cls y y).before a0 Z = true) (w3 : (Jvm.Cond.initialized y.cls).before a0 Z = true) (w4 : (Jvm.Cond.code y bytes maxL ret).before a0 Z = true)
    (hy : y.cls ≠ "java/lang/invoke/MethodHandle" ∧ y.cls ≠ "java/lang/invoke/VarHandle") {rm : Room} {a : Addr} {argsL rest : List Value} {Q : Option Value → Heap → List Loc → Prop} (C : Con l Z y bytes maxL ret rm (.ref a :: argsL).toArray h Q) (eT : T.heap = h) (E : Exa Z h a y.cls)
    {pc : Nat} {Ls : Array Slot} (hsize : Ls.size = c.maxLocals) (hd : decode c.code pc = .ok (.invokevirtual index, 3)) (hlen : ∀ sig, parseMethodDescriptor y.desc = some sig → argsL.length = sig.parameters.length)
    (W : Nat) (hW : (rest.map fun v => v.category).sum ≤ W) (hf : rm.frames + 1 ≤ R.frames) (hl : W + (maxL + 11) + rm.locals ≤ R.locals) (hc : cells + rm.cells ≤ R.cells) (hs : slots + rm.slots ≤ R.slots)
    (k : ∀ v T' L, Stand p l e R s m args below meth c T' (locs ++ L) (cells + rm.cells) (slots + rm.slots) → Q v T'.heap L → Ends p e below P T' (mkF m (pc + 3) Ls (v.toList ++ rest))) :
    Ends p e below P T (mkF m pc Ls (argsL.reverse ++ .ref a :: rest)) := by
  obtain ⟨cq, kq, qa, qb, qc⟩ := isOf (T := T) hZ eT E
  obtain ⟨v, _, ⟨T1, L1, k1, n1⟩, -, X1, ⟨Lc, hQ, l1, y1, z1⟩, st⟩ := X.virtualBack hx (y := y) (z := y) hown (mvT hZ w1) (mvT hZ wd) (notFace_of_selects (args := #[]) (mvT hZ ws)) (mvT hZ ws) (mvT hZ w2) hy (backOf (W := W) (C []) hZ w4 w3 hf hl) qa qc (g := mkF m pc Ls (argsL.reverse ++ .ref a :: rest)) rfl hsize (Steps.refl _) (argsL := argsL) (rest := rest) hlen rfl (by show 2 * 0 + _ ≤ _; omega) hd (fun _ _ => ⟨rfl, eT, hc, hs⟩)
  dsimp only [Pt.U, Pt.locs, Pt.cells, Pt.slots] at X1 l1 y1 z1 st hQ
  subst l1 y1 z1
  exact Ends.on st (k v T1 Lc X1 hQ)
/-- nothing is written, nothing made: it returns v -/
def Pure (h0 : Heap) (r : Option Value) (v : Option Value) (h : Heap) (L : List Loc) : Prop := v = r ∧ h = h0 ∧ L = []
/-- the six comparisons, both ways at once -/
theorem Ends.icmp (X : Stand p l e R s m args below meth c T locs cells slots) (hx : p.tables.exec = Jvm.exec) {cd : ClassFile.Cond} {x y : Int32} {o : Int} {pc : Nat} {Ls : Array Slot} {rest : List Value} (hd : decode c.code pc = .ok (.if_icmp cd o, 3)) (pc' : Nat) (ho : 0 ≤ (pc : Int) + o) (hp : ((pc : Int) + o).toNat = pc')
    (kT : if_icmp.holds cd x y = true → Ends p e below P T (mkF m pc' Ls rest)) (kF : if_icmp.holds cd x y = false → Ends p e below P T (mkF m (pc + 3) Ls rest)) : Ends p e below P T (mkF m pc Ls (.int y :: .int x :: rest)) := by
  rcases hb : if_icmp.holds cd x y with _ | _
  · exact Ends.by (fun _ => XS.icmpNo X.here hx rfl hd rfl hb) (kF hb)
  · exact Ends.by (fun _ => XS.icmpYes X.here hx rfl (pc0 := pc) (pc' := pc') rfl hd rfl hb ho hp) (kT hb)
theorem own_wrap {x y : Int} (h : (x - y) % 4294967296 = 0) (r : -2147483648 ≤ x ∧ x < 2147483648) (b : -2147483648 ≤ y ∧ y < 2147483648) : x = y := by omega
theorem own_andor (x a b : Int32) : (x &&& a) ||| (x &&& b) = x &&& (a ||| b) := by
  apply Int32.toBitVec_inj.mp
  rw [Int32.toBitVec_or, Int32.toBitVec_and, Int32.toBitVec_and, Int32.toBitVec_and, Int32.toBitVec_or, ← BitVec.and_or_distrib_left]
theorem own_lt {x y : Int32} : (if_icmp.holds .lt x y = true → x < y) ∧ (if_icmp.holds .lt x y = false → ¬ x < y) := ⟨fun q => Classical.byContradiction fun n => (by rw [(flt n).1] at q; cases q), fun q n => (by rw [(tlt n).1] at q; cases q)⟩
theorem own_ge {x y : Int32} : (if_icmp.holds .ge x y = true → ¬ x < y) ∧ (if_icmp.holds .ge x y = false → x < y) := ⟨fun q n => (by rw [(tlt n).2.1] at q; cases q), fun q => Classical.byContradiction fun n => (by rw [(flt n).2.1] at q; cases q)⟩
theorem own_gt {x y : Int32} : (if_icmp.holds .gt x y = true → y < x) ∧ (if_icmp.holds .gt x y = false → ¬ y < x) := ⟨fun q => Classical.byContradiction fun n => (by rw [(flt n).2.2.1] at q; cases q), fun q n => (by rw [(tlt n).2.2.1] at q; cases q)⟩
theorem own_le {x y : Int32} : (if_icmp.holds .le x y = true → ¬ y < x) ∧ (if_icmp.holds .le x y = false → y < x) := ⟨fun q n => (by rw [(tlt n).2.2.2] at q; cases q), fun q => Classical.byContradiction fun n => (by rw [(flt n).2.2.2] at q; cases q)⟩
theorem own_eq {x y : Int32} : (if_icmp.holds .eq x y = true → x = y) ∧ (if_icmp.holds .eq x y = false → ¬ x = y) := ⟨fun q => Classical.byContradiction fun n => (by rw [(feq n).1] at q; cases q), fun q n => (by rw [(teq n).1] at q; cases q)⟩
theorem own_ne {x y : Int32} : (if_icmp.holds .ne x y = true → ¬ x = y) ∧ (if_icmp.holds .ne x y = false → x = y) := ⟨fun q n => (by rw [(teq n).2] at q; cases q), fun q => Classical.byContradiction fun n => (by rw [(feq n).2] at q; cases q)⟩
theorem Ends.ifc (X : Stand p l e R s m args below meth c T locs cells slots) (hx : p.tables.exec = Jvm.exec) {cd : ClassFile.Cond} {x : Int32} {o : Int} {pc : Nat} {Ls : Array Slot} {rest : List Value} (hd : decode c.code pc = .ok (.ifCond cd o, 3)) (pc' : Nat) (ho : 0 ≤ (pc : Int) + o) (hp : ((pc : Int) + o).toNat = pc')
    (kT : if_icmp.holds cd x 0 = true → Ends p e below P T (mkF m pc' Ls rest)) (kF : if_icmp.holds cd x 0 = false → Ends p e below P T (mkF m (pc + 3) Ls rest)) : Ends p e below P T (mkF m pc Ls (.int x :: rest)) := by
  rcases hb : if_icmp.holds cd x 0 with _ | _
  · exact Ends.by (fun _ => XS.ifNo X.here hx rfl hd rfl ((if0 _ _).trans hb)) (kF hb)
  · exact Ends.by (fun _ => XS.ifYes X.here hx rfl (pc0 := pc) (pc' := pc') rfl hd rfl ((if0 _ _).trans hb) ho hp) (kT hb)
end Own
end Jvm.Pilot.@@N@@
namespace Jvm.Pilot.@@N@@
open Jvm Jvm.ClassFile Sem Op Lib Jvm.Free Jvm.Stand Jvm.LawKit Jvm.RoadKit Bundle Jvm.Pilot.@@N@@.Jvm.D
section Own2
variable {p : Program} {l : Launch} {e : Env} {R : Room} {s : State} {m : MethodId} {args : Array Value} {below : List Frame} {meth : Method} {c : Code} {T T' Z : State} {locs : List Loc} {cells slots : Nat} {P : Outcome → State → Prop} {a0 : Array Value} {h h' h0 : Heap} {a b : Addr} {ty : FieldType} {n k n0 : Nat} {f : Nat → Value} {ws : List Addr}
/-- g with v at the place k -/
def upd {α : Type} (g : Nat → α) (k : Nat) (v : α) : Nat → α := fun i => if i = k then v else g i
theorem upd_hit {α : Type} (g : Nat → α) (k : Nat) (v : α) : upd g k v k = v := if_pos rfl
theorem upd_miss {α : Type} (g : Nat → α) {k i : Nat} (v : α) (q : i ≠ k) : upd g k v i = g i := if_neg q
/-- an array of n elements, the i-th is f i -/
def Af (Z : State) (h : Heap) (a : Addr) (ty : FieldType) (n : Nat) (f : Nat → Value) : Prop :=
  ∃ c : Cell, Arr Z h a c ty ∧ c.slots.size = n ∧ n < 2147483648 ∧ (∀ i, i < n → c.slots[i]? = some (f i)) ∧ ∀ i, i < n → fits ty (f i) = true
theorem Af.lt (F : Af Z h a ty n f) : a < h.size := by obtain ⟨c, A, -⟩ := F; exact A.lt
theorem Af.small (F : Af Z h a ty n f) : n < 2147483648 := by obtain ⟨c, -, -, q, -⟩ := F; exact q
theorem Af.ext (F : Af Z h a ty n f) (E : Ext h h') : Af Z h' a ty n f := by obtain ⟨c, A, r⟩ := F; exact ⟨c, A.ext E, r⟩
theorem Af.keep (F : Af Z h a ty n f) (K : Keep h h' ws) (q : a ∉ ws) : Af Z h' a ty n f := by obtain ⟨c, A, r⟩ := F; exact ⟨c, ⟨K.2.1 a c A.1 q, A.2⟩, r⟩
theorem Af.other {sl : Nat} {v : Value} (F : Af Z h b ty n f) (W : Wr h h' a sl v) (q : b ≠ a) : Af Z h' b ty n f := by obtain ⟨c, A, r⟩ := F; exact ⟨c, A.other W q, r⟩
theorem Af.congr {f' : Nat → Value} (F : Af Z h a ty n f) (q : ∀ i, i < n → f' i = f i) : Af Z h a ty n f' := by
  obtain ⟨c, A, r1, r2, r3, r4⟩ := F; exact ⟨c, A, r1, r2, fun i hi => by rw [q i hi]; exact r3 i hi, fun i hi => by rw [q i hi]; exact r4 i hi⟩
theorem Af.set {v : Value} (F : Af Z h a ty n f) (W : Wr h h' a k v) (hk : k < n) (hv : fits ty v = true) : Af Z h' a ty n (upd f k v) := by
  obtain ⟨c, A, r1, r2, r3, r4⟩ := F
  refine ⟨c.setSlot k v, A.same W, by rw [sz_set]; exact r1, r2, fun i hi => ?_, fun i hi => ?_⟩
  · by_cases q : i = k
    · subst q; rw [upd_hit]; simp [Cell.setSlot, r1, hi]
    · rw [upd_miss _ _ q, ← r3 i hi]; simp [Cell.setSlot, Array.getElem?_setIfInBounds, Ne.symm q]
  · by_cases q : i = k
    · subst q; rw [upd_hit]; exact hv
    · rw [upd_miss _ _ q]; exact r4 i hi
theorem Af.new {k : ClassId} {z : Int32} (A : Arr Z h a (newA k ty z) ty) (q : z.toInt = (n : Int)) (hd : fits ty (defaultValue ty) = true) : Af Z h a ty n (fun _ => defaultValue ty) := by
  have e : z.toNatClampNeg = n := by show z.toInt.toNat = n; omega
  have r := z.toInt_lt
  refine ⟨_, A, by rw [sz_new, e], by omega, fun i hi => ?_, fun i _ => hd⟩
  simp [newA, e, hi]
theorem own_idx {j : Int32} (q : j.toInt = (k : Int)) : j.toNatClampNeg = k ∧ ¬ j < 0 := by
  refine ⟨by show j.toInt.toNat = k; omega, ?_⟩
  rw [Int32.lt_iff_toInt_lt]; have : (0 : Int32).toInt = 0 := rfl; omega
theorem own_inb {j : Int32} {c : Cell} (S : c.slots.size = n) (q : j.toInt = (k : Int)) (hk : k < n) : ¬ (j < 0 ∨ c.slots.size ≤ j.toNatClampNeg) := by
  obtain ⟨q1, q2⟩ := own_idx q
  rw [S, q1]; intro o; rcases o with o | o
  · exact q2 o
  · omega
/-- the array's length -/
theorem Ends.len (X : Stand p l e R s m args below meth c T locs cells slots) (hx : p.tables.exec = Jvm.exec) (hZ : Z.Warmed39 s.vm) (eT : T.heap = h) (F : Af Z h a ty n f) {z : Int32} (hz : z.toInt = (n : Int)) {pc : Nat} {Ls : Array Slot} {rest : List Value} (hd : decode c.code pc = .ok (.arraylength, 1))
    (kk : Ends p e below P T (mkF m (pc + 1) Ls (.int z :: rest))) : Ends p e below P T (mkF m pc Ls (.ref a :: rest)) := by
  obtain ⟨cl, A, r1, r2, -⟩ := F
  refine Ends.by (fun t => X.arraylength hx (by rw [eT]; exact A.1) (State.isArrayOf_alike hZ.alike A.2.1) (g := mkF m pc Ls (.ref a :: rest)) rfl rfl hd t) ?_
  have q : cl.slots.size.toInt32 = z := by
    apply Int32.toInt_inj.mp; rw [r1, hz]; exact Int32.toInt_ofNat_of_lt (by omega)
  rw [q]; exact kk
theorem Ends.ldB (X : Stand p l e R s m args below meth c T locs cells slots) (hx : p.tables.exec = Jvm.exec) (hZ : Z.Warmed39 s.vm) (eT : T.heap = h) (F : Af Z h a .byte n f) {j : Int32} (hj : j.toInt = (k : Int)) (hk : k < n) {v : Value} (hv : f k = v) {pc : Nat} {Ls : Array Slot} {rest : List Value} (hd : decode c.code pc = .ok (.baload, 1))
    (kk : Ends p e below P T (mkF m (pc + 1) Ls (v :: rest))) : Ends p e below P T (mkF m pc Ls (.int j :: .ref a :: rest)) := by
  obtain ⟨cl, A, r1, r2, r3, -⟩ := F
  exact Ends.by (fun t => X.baloadBytes hx (j := j) (v := v) (by rw [eT]; exact A.1) (State.isArrayOf_alike hZ.alike A.2.1) A.2.2 (own_inb r1 hj hk) (by rw [(own_idx hj).1, ← hv]; exact r3 k hk) (g := mkF m pc Ls (.int j :: .ref a :: rest)) rfl rfl hd t) kk
theorem Ends.ldI (X : Stand p l e R s m args below meth c T locs cells slots) (hx : p.tables.exec = Jvm.exec) (hZ : Z.Warmed39 s.vm) (eT : T.heap = h) (F : Af Z h a .int n f) {j : Int32} (hj : j.toInt = (k : Int)) (hk : k < n) {v : Value} (hv : f k = v) {pc : Nat} {Ls : Array Slot} {rest : List Value} (hd : decode c.code pc = .ok (.iaload, 1))
    (kk : Ends p e below P T (mkF m (pc + 1) Ls (v :: rest))) : Ends p e below P T (mkF m pc Ls (.int j :: .ref a :: rest)) := by
  obtain ⟨cl, A, r1, r2, r3, -⟩ := F
  exact Ends.by (fun t => X.iaload hx (j := j) (v := v) (by rw [eT]; exact A.1) (State.isArrayOf_alike hZ.alike A.2.1) A.2.2 (own_inb r1 hj hk) (by rw [(own_idx hj).1, ← hv]; exact r3 k hk) (g := mkF m pc Ls (.int j :: .ref a :: rest)) rfl rfl hd t) kk
theorem Ends.ldJ (X : Stand p l e R s m args below meth c T locs cells slots) (hx : p.tables.exec = Jvm.exec) (hZ : Z.Warmed39 s.vm) (eT : T.heap = h) (F : Af Z h a .long n f) {j : Int32} (hj : j.toInt = (k : Int)) (hk : k < n) {v : Value} (hv : f k = v) {pc : Nat} {Ls : Array Slot} {rest : List Value} (hd : decode c.code pc = .ok (.laload, 1))
    (kk : Ends p e below P T (mkF m (pc + 1) Ls (v :: rest))) : Ends p e below P T (mkF m pc Ls (.int j :: .ref a :: rest)) := by
  obtain ⟨cl, A, r1, r2, r3, -⟩ := F
  exact Ends.by (fun t => X.laload hx (j := j) (v := v) (by rw [eT]; exact A.1) (State.isArrayOf_alike hZ.alike A.2.1) A.2.2 (own_inb r1 hj hk) (by rw [(own_idx hj).1, ← hv]; exact r3 k hk) (g := mkF m pc Ls (.int j :: .ref a :: rest)) rfl rfl hd t) kk
theorem own_snoc {sl : Nat} (N : Fr n0 locs) (q : n0 ≤ a) : Fr n0 (locs ++ [⟨a, sl⟩]) := N.app fun y hy => by cases List.mem_singleton.mp hy; exact q
theorem Ends.stB (X : Stand p l e R s m args below meth c T locs cells slots) (hx : p.tables.exec = Jvm.exec) (hZ : Z.Warmed39 s.vm) (eT : T.heap = h) (N : Fr n0 locs) (ge : n0 ≤ a) (F : Af Z h a .byte n f) {j x : Int32} (hj : j.toInt = (k : Int)) (hk : k < n) {pc : Nat} {Ls : Array Slot} {rest : List Value} (hd : decode c.code pc = .ok (.bastore, 1))
    (kk : ∀ T' h' L', Stand p l e R s m args below meth c T' L' cells slots → T'.heap = h' → Fr n0 L' → Wr h h' a k (.int x.toInt8.toInt32) → Af Z h' a .byte n (upd f k (.int x.toInt8.toInt32)) → Ends p e below P T' (mkF m (pc + 1) Ls rest)) : Ends p e below P T (mkF m pc Ls (.int x :: .int j :: .ref a :: rest)) := by
  obtain ⟨cl, A, r1, r2, r3, r4⟩ := F
  obtain ⟨T1, h1, X1, e1, W1, st⟩ := Jvm.RoadKit.stB X hx hZ eT A (j := j) (x := x) (own_inb r1 hj hk) (g := mkF m pc Ls (.int x :: .int j :: .ref a :: rest)) rfl rfl hd
  rw [(own_idx hj).1] at W1
  have W2 : Wr h h1 a k (.int x.toInt8.toInt32) := W1
  exact Ends.by st (kk T1 h1 _ X1 e1 (own_snoc N ge) W2 (Af.set ⟨cl, A, r1, r2, r3, r4⟩ W2 hk (fits_nar_byte x)))
theorem Ends.stI (X : Stand p l e R s m args below meth c T locs cells slots) (hx : p.tables.exec = Jvm.exec) (hZ : Z.Warmed39 s.vm) (eT : T.heap = h) (N : Fr n0 locs) (ge : n0 ≤ a) (F : Af Z h a .int n f) {j x : Int32} (hj : j.toInt = (k : Int)) (hk : k < n) {pc : Nat} {Ls : Array Slot} {rest : List Value} (hd : decode c.code pc = .ok (.iastore, 1))
    (kk : ∀ T' h' L', Stand p l e R s m args below meth c T' L' cells slots → T'.heap = h' → Fr n0 L' → Wr h h' a k (.int x) → Af Z h' a .int n (upd f k (.int x)) → Ends p e below P T' (mkF m (pc + 1) Ls rest)) : Ends p e below P T (mkF m pc Ls (.int x :: .int j :: .ref a :: rest)) := by
  obtain ⟨cl, A, r1, r2, r3, r4⟩ := F
  obtain ⟨T1, h1, X1, e1, W1, st⟩ := Jvm.RoadKit.stI X hx hZ eT A (j := j) (x := x) (own_inb r1 hj hk) (g := mkF m pc Ls (.int x :: .int j :: .ref a :: rest)) rfl rfl hd
  rw [(own_idx hj).1] at W1
  exact Ends.by st (kk T1 h1 _ X1 e1 (own_snoc N ge) W1 (Af.set ⟨cl, A, r1, r2, r3, r4⟩ W1 hk rfl))
theorem Ends.stJ (X : Stand p l e R s m args below meth c T locs cells slots) (hx : p.tables.exec = Jvm.exec) (hZ : Z.Warmed39 s.vm) (eT : T.heap = h) (N : Fr n0 locs) (ge : n0 ≤ a) (F : Af Z h a .long n f) {j : Int32} {x : Int64} (hj : j.toInt = (k : Int)) (hk : k < n) {pc : Nat} {Ls : Array Slot} {rest : List Value} (hd : decode c.code pc = .ok (.lastore, 1))
    (kk : ∀ T' h' L', Stand p l e R s m args below meth c T' L' cells slots → T'.heap = h' → Fr n0 L' → Wr h h' a k (.long x) → Af Z h' a .long n (upd f k (.long x)) → Ends p e below P T' (mkF m (pc + 1) Ls rest)) : Ends p e below P T (mkF m pc Ls (.long x :: .int j :: .ref a :: rest)) := by
  obtain ⟨cl, A, r1, r2, r3, r4⟩ := F
  obtain ⟨T1, h1, X1, e1, W1, st⟩ := Jvm.RoadKit.stJ X hx hZ eT A (j := j) (x := x) (own_inb r1 hj hk) (g := mkF m pc Ls (.long x :: .int j :: .ref a :: rest)) rfl rfl hd
  rw [(own_idx hj).1] at W1
  exact Ends.by st (kk T1 h1 _ X1 e1 (own_snoc N ge) W1 (Af.set ⟨cl, A, r1, r2, r3, r4⟩ W1 hk rfl))
/-- a new array of bytes, ints, longs .. -/
theorem Ends.newA (X : Stand p l e R s m args below meth c T locs cells slots) (hx : p.tables.exec = Jvm.exec) (hZ : Z.Warmed39 s.vm) {aty : ArrayType} (w : (Jvm.Cond.arrayClass (newarray.typeOf aty)).before a0 Z = true) (eT : T.heap = h) {z : Int32} (hz : z.toInt = (n : Int)) (cap : Nat) (hcap : n ≤ cap) (hb : cap * 8 ≤ 536870912) (hc : cells + 1 ≤ R.cells) (hl : slots + cap ≤ R.slots) (hdf : fits (newarray.typeOf aty) (defaultValue (newarray.typeOf aty)) = true)
    {ad : String} (had : "[" ++ (newarray.typeOf aty).toString = ad) {pc : Nat} {Ls : Array Slot} {rest : List Value} (hd : decode c.code pc = .ok (.newarray aty, 2))
    (kk : ∀ T' h', Stand p l e R s m args below meth c T' locs (cells + 1) (slots + cap) → T'.heap = h' → Ext h h' → Af Z h' h.size (newarray.typeOf aty) n (fun _ => defaultValue (newarray.typeOf aty)) → Exa Z h' h.size ad → Ends p e below P T' (mkF m (pc + 2) Ls (.ref h.size :: rest))) : Ends p e below P T (mkF m pc Ls (.int z :: rest)) := by
  obtain ⟨q1, q2⟩ := own_idx hz
  obtain ⟨T1, h1, cA, X1, e1, E1, A1, Ex1, st⟩ := newPE X hx hZ w eT (g := mkF m pc Ls (.int z :: rest)) rfl hd rfl q2 (cap := cap) (by rw [q1]; exact hcap) hb hc hl had
  exact Ends.by st (kk T1 h1 X1 e1 E1 (Af.new A1 hz hdf) Ex1)
theorem own_updL (g : Nat → Int64) (k : Nat) (x : Int64) (q : Nat) : Value.long (upd g k x q) = upd (fun q => Value.long (g q)) k (.long x) q := by
  unfold upd; split <;> rfl
theorem own_updI (g : Nat → Int32) (k : Nat) (x : Int32) (q : Nat) : Value.int (upd g k x q) = upd (fun q => Value.int (g q)) k (.int x) q := by
  unfold upd; split <;> rfl
/-- an array's clone -/
theorem Ends.clone (X : Stand p l e R s m args below meth c T locs cells slots) (hx : p.tables.exec = Jvm.exec) (hZ : Z.Warmed39 s.vm) {own ad : String} {index : Nat} (hown : s.vm.findClass own = some m.cls)
    (w1 : (Jvm.Cond.methodLink own index ⟨ad, "clone", "()Ljava/lang/Object;"⟩).before a0 Z = true) (w2 : (Jvm.Cond.sameMethod ad "java/lang/Object" "clone" "()Ljava/lang/Object;").before a0 Z = true) (w3 : (Jvm.Cond.native ⟨"java/lang/Object", "clone", "()Ljava/lang/Object;"⟩).before a0 Z = true)
    (w4 : (Jvm.Cond.instanceMethod ⟨"java/lang/Object", "clone", "()Ljava/lang/Object;"⟩).before a0 Z = true) (w5 : (Jvm.Cond.selects ad ⟨ad, "clone", "()Ljava/lang/Object;"⟩ ⟨"java/lang/Object", "clone", "()Ljava/lang/Object;"⟩).before a0 Z = true) (w6 : (Jvm.Cond.castable ad "java/lang/Cloneable").before a0 Z = true)
    (eT : T.heap = h) (F : Af Z h a ty n f) (E : Exa Z h a ad) (W : Nat) {rest : List Value} (hW : (rest.map fun v => v.category).sum ≤ W) {pc : Nat} {Ls : Array Slot} (hsize : Ls.size = c.maxLocals) (hd : decode c.code pc = .ok (.invokevirtual index, 3))
    (hf : 1 ≤ R.frames) (hl : W + 14 ≤ R.locals) (hty : refKind ty = false) (cap : Nat) (hcap : n ≤ cap) (hc : cells + 1 ≤ R.cells) (hsl : slots + cap ≤ R.slots)
    (kk : ∀ T' h', Stand p l e R s m args below meth c T' locs (cells + 1) (slots + cap) → T'.heap = h' → Ext h h' → Af Z h' h.size ty n f → Exa Z h' h.size ad → Ends p e below P T' (mkF m (pc + 3) Ls (.ref h.size :: rest))) : Ends p e below P T (mkF m pc Ls (.ref a :: rest)) := by
  obtain ⟨cl, A, r1, r2, r3, r4⟩ := F
  have FC : FitC Z cl := fitC_of A fun i hi v hv => by rw [r3 i (r1 ▸ hi)] at hv; cases hv; exact r4 i (r1 ▸ hi)
  obtain ⟨T1, h1, X1, e1, E1, A1, Ex1, st⟩ := cloneA X hx hZ hown w1 w2 w3 w4 w5 w6 eT A E FC (g := mkF m pc Ls (.ref a :: rest)) rfl hsize rfl hd hf (W := W) (by show 2 * 0 + _ ≤ _; omega) hl (cap := cap) (by rw [r1]; exact hcap) hc hsl
  exact Ends.by st (kk T1 h1 X1 e1 E1 ⟨_, A1, r1, r2, r3, r4⟩ Ex1)
theorem own_apart {C : String} (F : Exa Z h a C) (G : Af Z h b ty n f) {kk : Nat} (wi : (Jvm.Cond.instantiable C kk).before a0 Z = true) : a ≠ b := by
  obtain ⟨cl, A, -⟩ := G; exact ne_arr F wi A
end Own2
end Jvm.Pilot.@@N@@
namespace Jvm.Pilot.@@N@@
open Jvm Jvm.ClassFile Sem Op Lib Jvm.Free Jvm.Stand Jvm.LawKit Jvm.RoadKit Bundle Jvm.Pilot.@@N@@.Jvm.D
theorem d1_0 : decode jdk_29_method_65_code 0 = .ok (.iload_n 0, 1) := by decide +kernel
theorem d1_1 : decode jdk_29_method_65_code 1 = .ok (.iload_n 1, 1) := by decide +kernel
theorem d1_2 : decode jdk_29_method_65_code 2 = .ok (.if_icmp .lt 7, 3) := by decide +kernel
theorem d1_5 : decode jdk_29_method_65_code 5 = .ok (.iload_n 0, 1) := by decide +kernel
theorem d1_6 : decode jdk_29_method_65_code 6 = .ok (.goto 4, 3) := by decide +kernel
theorem d1_9 : decode jdk_29_method_65_code 9 = .ok (.iload_n 1, 1) := by decide +kernel
theorem d1_10 : decode jdk_29_method_65_code 10 = .ok (.ireturn, 1) := by decide +kernel
theorem pd_1 : parseMethodDescriptor "(II)I" = some ⟨[.int, .int], some .int⟩ := by decide +kernel
theorem pf_1 : plainFor (⟨"java/lang/Math", "max", "(II)I"⟩ : MethodName) = true := Jvm.Free.JP.mathPlain rfl (by decide +kernel)
theorem ef_1 (m : MethodId) (u : Int32) (w : Int32) : entryFrame m #[(.int u), (.int w)] 2 = mkF m 0 #[.val (.int u), .val (.int w)] [] := by first | (simp [entryFrame, mkF, argsToLocals, Value.category]; done) | rfl
def f_1 (u : Int32) (w : Int32) : Int32 :=
  if u < w then w
  else u
set_option maxRecDepth 65536 in
set_option maxHeartbeats 40000000 in
theorem con_1 (l : Launch) (Z : State) (a0 : Array Value) (hw : ∀ d ∈ tables_1, d.before a0 Z = true) (u : Int32) (w : Int32) (h0 : Heap) : Con l Z (⟨"java/lang/Math", "max", "(II)I"⟩ : MethodName) jdk_29_method_65_code 2 (some .int) ({ frames := 0, cells := 0, slots := 0, locals := 0 } : Room) #[(.int u), (.int w)] h0 (Pure h0 (some (.int (f_1 u w)))) := by
  refine Con.intro pf_1 ?_
  intro p e s m below meth c s₁ hx hby hml hown hnm hret hlk hZ X0 e0
  refine Ends.cast (ef_1 m u w) ?_
  refine Ends.by (fun _ => XS.iloadN X0.here hx rfl (hb hby d1_0) rfl) ?_
  show Ends p e below _ s₁ (mkF m 1 #[.val (.int u), .val (.int w)] [(.int u)])
  refine Ends.by (fun _ => XS.iloadN X0.here hx rfl (hb hby d1_1) rfl) ?_
  show Ends p e below _ s₁ (mkF m 2 #[.val (.int u), .val (.int w)] [(.int w), (.int u)])
  refine Ends.icmp X0 hx (hb hby d1_2) 9 (by decide) (by decide) (fun q => ?_) (fun q => ?_)
  · have c2 : u < w := own_lt.1 q
    show Ends p e below _ s₁ (mkF m 9 #[.val (.int u), .val (.int w)] [])
    refine Ends.by (fun _ => XS.iloadN X0.here hx rfl (hb hby d1_9) rfl) ?_
    show Ends p e below _ s₁ (mkF m 10 #[.val (.int u), .val (.int w)] [(.int w)])
    exact Ends.retI X0 hx hlk hret (hb hby d1_10) (by decide) (by decide) ⟨by rw [f_1, if_pos c2], e0, rfl⟩
  · have c2 : ¬ (u < w) := own_lt.2 q
    show Ends p e below _ s₁ (mkF m 5 #[.val (.int u), .val (.int w)] [])
    refine Ends.by (fun _ => XS.iloadN X0.here hx rfl (hb hby d1_5) rfl) ?_
    show Ends p e below _ s₁ (mkF m 6 #[.val (.int u), .val (.int w)] [(.int u)])
    refine Ends.by (fun _ => XS.goto X0.here hx rfl (pc0 := 6) (pc' := 10) rfl (hb hby d1_6) (by decide) (by decide)) ?_
    show Ends p e below _ s₁ (mkF m 10 #[.val (.int u), .val (.int w)] [(.int u)])
    exact Ends.retI X0 hx hlk hret (hb hby d1_10) (by decide) (by decide) ⟨by rw [f_1, if_neg c2], e0, rfl⟩
theorem d3_0 : decode jdk_30_method_1_code 0 = .ok (.aload_n 0, 1) := by decide +kernel
theorem d3_1 : decode jdk_30_method_1_code 1 = .ok (.invokespecial 1, 3) := by decide +kernel
theorem d3_4 : decode jdk_30_method_1_code 4 = .ok (.return_, 1) := by decide +kernel
theorem pd_3 : parseMethodDescriptor "()V" = some ⟨[], none⟩ := by decide +kernel
theorem pf_3 : plainFor (⟨"java/lang/Record", "<init>", "()V"⟩ : MethodName) = true := plainFor_of_name (by first | (simp [plainName, overriddenIn, x]; done) | decide +kernel)
theorem ef_3 (m : MethodId) (a : Addr) : entryFrame m #[(.ref a)] 1 = mkF m 0 #[.val (.ref a)] [] := by first | (simp [entryFrame, mkF, argsToLocals, Value.category]; done) | rfl
set_option maxRecDepth 65536 in
set_option maxHeartbeats 40000000 in
theorem con_3 (l : Launch) (Z : State) (a0 : Array Value) (hw : ∀ d ∈ tables_1, d.before a0 Z = true) (a : Addr)  (h0 : Heap) (n0 : Nat) (Z0 : n0 ≤ h0.size) : Con l Z (⟨"java/lang/Record", "<init>", "()V"⟩ : MethodName) jdk_30_method_1_code 1 none ({ frames := 1, cells := 0, slots := 0, locals := 12 } : Room) #[(.ref a)] h0 (Pure h0 none) := by
  refine Con.intro pf_3 ?_
  intro p e s m below meth c s₁ hx hby hml hown hnm hret hlk hZ X0 e0
  refine Ends.cast (ef_3 m a) ?_
  have N0 := Fr.nil n0
  refine Ends.by (fun _ => XS.aloadN X0.here hx rfl (hb hby d3_0) rfl rfl) ?_
  show Ends p e below _ s₁ (mkF m 1 #[.val (.ref a)] [(.ref a)])
  obtain ⟨T1, X1, e1, st1⟩ := initO X0 hx hZ hown (hw _ (List.mem_of_getElem? (i := 16) rfl)) (hw _ (List.mem_of_getElem? (i := 17) rfl)) (hw _ (List.mem_of_getElem? (i := 18) rfl)) e0 (g := (mkF m 1 #[.val (.ref a)] [(.ref a)])) rfl (by rw [hml]; rfl) rfl (hb hby d3_1) (by decide) (W := 0) (by show 2 * 0 + _ ≤ _; exact Nat.le_of_eq rfl) (by decide)
  refine Ends.by st1 ?_
  show Ends p e below _ T1 (mkF m 4 #[.val (.ref a)] [])
  exact Ends.retV X1 hx hlk hret (hb hby d3_4) (by decide) (by decide) (by rw [e1]; exact ⟨rfl, rfl, rfl⟩)
theorem d2_0 : decode prog_32_method_1_code 0 = .ok (.aload_n 0, 1) := by decide +kernel
theorem d2_1 : decode prog_32_method_1_code 1 = .ok (.invokespecial 1, 3) := by decide +kernel
theorem d2_4 : decode prog_32_method_1_code 4 = .ok (.iload_n 1, 1) := by decide +kernel
theorem d2_5 : decode prog_32_method_1_code 5 = .ok (.iconst 1, 1) := by decide +kernel
theorem d2_6 : decode prog_32_method_1_code 6 = .ok (.if_icmp .lt 23, 3) := by decide +kernel
theorem d2_9 : decode prog_32_method_1_code 9 = .ok (.iload_n 2, 1) := by decide +kernel
theorem d2_10 : decode prog_32_method_1_code 10 = .ok (.bipush 30, 2) := by decide +kernel
theorem d2_12 : decode prog_32_method_1_code 12 = .ok (.if_icmp .lt 17, 3) := by decide +kernel
theorem d2_15 : decode prog_32_method_1_code 15 = .ok (.iload_n 2, 1) := by decide +kernel
theorem d2_16 : decode prog_32_method_1_code 16 = .ok (.sipush 3000, 3) := by decide +kernel
theorem d2_19 : decode prog_32_method_1_code 19 = .ok (.if_icmp .gt 10, 3) := by decide +kernel
theorem d2_22 : decode prog_32_method_1_code 22 = .ok (.iload_n 2, 1) := by decide +kernel
theorem d2_23 : decode prog_32_method_1_code 23 = .ok (.bipush 30, 2) := by decide +kernel
theorem d2_25 : decode prog_32_method_1_code 25 = .ok (.irem, 1) := by decide +kernel
theorem d2_26 : decode prog_32_method_1_code 26 = .ok (.ifCond .eq 18, 3) := by decide +kernel
theorem d2_29 : decode prog_32_method_1_code 29 = .ok (.new 7, 3) := by decide +kernel
theorem d2_32 : decode prog_32_method_1_code 32 = .ok (.dup, 1) := by decide +kernel
theorem d2_33 : decode prog_32_method_1_code 33 = .ok (.iload_n 1, 1) := by decide +kernel
theorem d2_34 : decode prog_32_method_1_code 34 = .ok (.iload_n 2, 1) := by decide +kernel
theorem d2_35 : decode prog_32_method_1_code 35 = .ok (.invokedynamic 9, 5) := by decide +kernel
theorem d2_40 : decode prog_32_method_1_code 40 = .ok (.invokespecial 13, 3) := by decide +kernel
theorem d2_43 : decode prog_32_method_1_code 43 = .ok (.athrow, 1) := by decide +kernel
theorem d2_44 : decode prog_32_method_1_code 44 = .ok (.aload_n 0, 1) := by decide +kernel
theorem d2_45 : decode prog_32_method_1_code 45 = .ok (.iload_n 1, 1) := by decide +kernel
theorem d2_46 : decode prog_32_method_1_code 46 = .ok (.putfield 16, 3) := by decide +kernel
theorem d2_49 : decode prog_32_method_1_code 49 = .ok (.aload_n 0, 1) := by decide +kernel
theorem d2_50 : decode prog_32_method_1_code 50 = .ok (.iload_n 2, 1) := by decide +kernel
theorem d2_51 : decode prog_32_method_1_code 51 = .ok (.putfield 22, 3) := by decide +kernel
theorem d2_54 : decode prog_32_method_1_code 54 = .ok (.return_, 1) := by decide +kernel
theorem pd_2 : parseMethodDescriptor "(II)V" = some ⟨[.int, .int], none⟩ := by decide +kernel
theorem pf_2 : plainFor (⟨"com/example/palimpsest/palimpsest/workload/tpcc/Population$Scale", "<init>", "(II)V"⟩ : MethodName) = true := plainFor_of_name (by first | (simp [plainName, overriddenIn, x]; done) | decide +kernel)
theorem ef_2 (m : MethodId) (a : Addr) (it : Int32) (cu : Int32) : entryFrame m #[(.ref a), (.int it), (.int cu)] 3 = mkF m 0 #[.val (.ref a), .val (.int it), .val (.int cu)] [] := by first | (simp [entryFrame, mkF, argsToLocals, Value.category]; done) | rfl
set_option maxRecDepth 65536 in
set_option maxHeartbeats 40000000 in
theorem con_2 (l : Launch) (Z : State) (a0 : Array Value) (hw : ∀ d ∈ tables_1, d.before a0 Z = true) (a : Addr) (it : Int32) (cu : Int32)  (h0 : Heap) (n0 : Nat) (Z0 : n0 ≤ h0.size) (E0 : Exa Z h0 a "com/example/palimpsest/palimpsest/workload/tpcc/Population$Scale") (F1 : Fld Z h0 a "com/example/palimpsest/palimpsest/workload/tpcc/Population$Scale" "items" "I" (.int (0 : Int32))) (F2 : Fld Z h0 a "com/example/palimpsest/palimpsest/workload/tpcc/Population$Scale" "customers" "I" (.int (0 : Int32))) (ga : n0 ≤ a) (p1 : ¬ it < 1) (p2 : ¬ cu < 30) (p3 : ¬ 3000 < cu) (p4 : cu % 30 = 0) : Con l Z (⟨"com/example/palimpsest/palimpsest/workload/tpcc/Population$Scale", "<init>", "(II)V"⟩ : MethodName) prog_32_method_1_code 3 none ({ frames := 2, cells := 0, slots := 0, locals := 24 } : Room) #[(.ref a), (.int it), (.int cu)] h0 (fun v h L => v = none ∧ Fr n0 L ∧ Keep h0 h [a] ∧ Exa Z h a "com/example/palimpsest/palimpsest/workload/tpcc/Population$Scale" ∧ Fld Z h a "com/example/palimpsest/palimpsest/workload/tpcc/Population$Scale" "customers" "I" (.int cu)) := by
  refine Con.intro pf_2 ?_
  intro p e s m below meth c s₁ hx hby hml hown hnm hret hlk hZ X0 e0
  refine Ends.cast (ef_2 m a it cu) ?_
  have N0 := Fr.nil n0
  have K0 : Keep h0 h0 [a] := Keep.refl _ _
  refine Ends.by (fun _ => XS.aloadN X0.here hx rfl (hb hby d2_0) rfl rfl) ?_
  show Ends p e below _ s₁ (mkF m 1 #[.val (.ref a), .val (.int it), .val (.int cu)] [(.ref a)])
  refine Ends.callI (a := a) (argsL := []) (rest := []) X0 hx hZ rfl hown (hw _ (List.mem_of_getElem? (i := 11) rfl)) (hw _ (List.mem_of_getElem? (i := 12) rfl)) (hw _ (List.mem_of_getElem? (i := 14) rfl)) (hw _ (List.mem_of_getElem? (i := 15) rfl)) (by decide) (con_3 l Z a0 hw a h0 n0 Z0) e0 (by rw [hml]; rfl) (hb hby d2_1) (lenOf pd_3 rfl) 0 (Nat.le_of_eq rfl) (by decide) (by decide) (by decide) (by decide) ?_
  intro v T1 L1 X1 hQ
  obtain ⟨rfl, e1, rfl⟩ := hQ
  rw [List.append_nil] at X1
  show Ends p e below _ T1 (mkF m 4 #[.val (.ref a), .val (.int it), .val (.int cu)] [])
  refine Ends.by (fun _ => XS.iloadN X1.here hx rfl (hb hby d2_4) rfl) ?_
  show Ends p e below _ T1 (mkF m 5 #[.val (.ref a), .val (.int it), .val (.int cu)] [(.int it)])
  refine Ends.by (fun _ => XS.iconst X1.here hx rfl (hb hby d2_5)) ?_
  show Ends p e below _ T1 (mkF m 6 #[.val (.ref a), .val (.int it), .val (.int cu)] [(.int (1 : Int32)), (.int it)])
  refine Ends.icmp X1 hx (hb hby d2_6) 29 (by decide) (by decide) (fun q => ?_) (fun q => ?_)
  · have c6 : it < (1 : Int32) := own_lt.1 q
    exact absurd c6 p1
  · have c6 : ¬ (it < (1 : Int32)) := own_lt.2 q
    show Ends p e below _ T1 (mkF m 9 #[.val (.ref a), .val (.int it), .val (.int cu)] [])
    refine Ends.by (fun _ => XS.iloadN X1.here hx rfl (hb hby d2_9) rfl) ?_
    show Ends p e below _ T1 (mkF m 10 #[.val (.ref a), .val (.int it), .val (.int cu)] [(.int cu)])
    refine Ends.by (fun _ => XS.bipush X1.here hx rfl (hb hby d2_10)) ?_
    show Ends p e below _ T1 (mkF m 12 #[.val (.ref a), .val (.int it), .val (.int cu)] [(.int (30 : Int32)), (.int cu)])
    refine Ends.icmp X1 hx (hb hby d2_12) 29 (by decide) (by decide) (fun q => ?_) (fun q => ?_)
    · have c12 : cu < (30 : Int32) := own_lt.1 q
      exact absurd c12 p2
    · have c12 : ¬ (cu < (30 : Int32)) := own_lt.2 q
      show Ends p e below _ T1 (mkF m 15 #[.val (.ref a), .val (.int it), .val (.int cu)] [])
      refine Ends.by (fun _ => XS.iloadN X1.here hx rfl (hb hby d2_15) rfl) ?_
      show Ends p e below _ T1 (mkF m 16 #[.val (.ref a), .val (.int it), .val (.int cu)] [(.int cu)])
      refine Ends.by (fun _ => XS.sipush X1.here hx rfl (hb hby d2_16)) ?_
      show Ends p e below _ T1 (mkF m 19 #[.val (.ref a), .val (.int it), .val (.int cu)] [(.int (3000 : Int32)), (.int cu)])
      refine Ends.icmp X1 hx (hb hby d2_19) 29 (by decide) (by decide) (fun q => ?_) (fun q => ?_)
      · have c19 : (3000 : Int32) < cu := own_gt.1 q
        exact absurd c19 p3
      · have c19 : ¬ ((3000 : Int32) < cu) := own_gt.2 q
        show Ends p e below _ T1 (mkF m 22 #[.val (.ref a), .val (.int it), .val (.int cu)] [])
        refine Ends.by (fun _ => XS.iloadN X1.here hx rfl (hb hby d2_22) rfl) ?_
        show Ends p e below _ T1 (mkF m 23 #[.val (.ref a), .val (.int it), .val (.int cu)] [(.int cu)])
        refine Ends.by (fun _ => XS.bipush X1.here hx rfl (hb hby d2_23)) ?_
        show Ends p e below _ T1 (mkF m 25 #[.val (.ref a), .val (.int it), .val (.int cu)] [(.int (30 : Int32)), (.int cu)])
        refine Ends.by (fun _ => iremM (g := (mkF m 25 #[.val (.ref a), .val (.int it), .val (.int cu)] [(.int (30 : Int32)), (.int cu)])) X1 hx rfl (hb hby d2_25) rfl (by decide)) ?_
        show Ends p e below _ T1 (mkF m 26 #[.val (.ref a), .val (.int it), .val (.int cu)] [(.int (cu % (30 : Int32)))])
        refine Ends.ifc X1 hx (hb hby d2_26) 44 (by decide) (by decide) (fun q => ?_) (fun q => ?_)
        · have c26 : (cu % (30 : Int32)) = (0 : Int32) := own_eq.1 q
          show Ends p e below _ T1 (mkF m 44 #[.val (.ref a), .val (.int it), .val (.int cu)] [])
          refine Ends.by (fun _ => XS.aloadN X1.here hx rfl (hb hby d2_44) rfl rfl) ?_
          show Ends p e below _ T1 (mkF m 45 #[.val (.ref a), .val (.int it), .val (.int cu)] [(.ref a)])
          refine Ends.by (fun _ => XS.iloadN X1.here hx rfl (hb hby d2_45) rfl) ?_
          show Ends p e below _ T1 (mkF m 46 #[.val (.ref a), .val (.int it), .val (.int cu)] [(.int it), (.ref a)])
          obtain ⟨T2, h2, X2, e2, W2, st2⟩ := putF X1 hx hZ hown (host := "") (Or.inl (hw _ (List.mem_of_getElem? (i := 19) rfl))) Via.refl e1 F1 E0 (Or.inr ⟨(hw _ (List.mem_of_getElem? (i := 20) rfl)), rfl, hnm⟩) (hw _ (List.mem_of_getElem? (i := 6) rfl)) (ty := .int) (by decide) rfl rfl (g := (mkF m 46 #[.val (.ref a), .val (.int it), .val (.int cu)] [(.int it), (.ref a)])) rfl rfl (hb hby d2_46)
          refine Ends.by st2 ?_
          have F_a_items_2 : Fld Z h2 a "com/example/palimpsest/palimpsest/workload/tpcc/Population$Scale" "items" "I" (.int it) := F1.same W2
          have N2 := Fr.snoc X2 N0 ga
          have E_a_2 : Exa Z h2 a "com/example/palimpsest/palimpsest/workload/tpcc/Population$Scale" := E0.wr W2
          have F_a_customers_2 : Fld Z h2 a "com/example/palimpsest/palimpsest/workload/tpcc/Population$Scale" "customers" "I" (.int (0 : Int32)) := F2.other W2 (Or.inr (slot_ne (Or.inr (hw _ (List.mem_of_getElem? (i := 22) rfl))) (Or.inr (hw _ (List.mem_of_getElem? (i := 20) rfl))) (by decide) (t := .int) (t' := .int) (by decide) (by decide)))
          have Z2 : n0 ≤ h2.size := Nat.le_trans Z0 (Nat.le_of_eq W2.size.symm)
          have K2 : Keep h0 h2 [a] := K0.wr W2 (Or.inl (List.mem_of_getElem? (i := 0) rfl))
          show Ends p e below _ T2 (mkF m 49 #[.val (.ref a), .val (.int it), .val (.int cu)] [])
          refine Ends.by (fun _ => XS.aloadN X2.here hx rfl (hb hby d2_49) rfl rfl) ?_
          show Ends p e below _ T2 (mkF m 50 #[.val (.ref a), .val (.int it), .val (.int cu)] [(.ref a)])
          refine Ends.by (fun _ => XS.iloadN X2.here hx rfl (hb hby d2_50) rfl) ?_
          show Ends p e below _ T2 (mkF m 51 #[.val (.ref a), .val (.int it), .val (.int cu)] [(.int cu), (.ref a)])
          obtain ⟨T3, h3, X3, e3, W3, st3⟩ := putF X2 hx hZ hown (host := "") (Or.inl (hw _ (List.mem_of_getElem? (i := 21) rfl))) Via.refl e2 F_a_customers_2 E_a_2 (Or.inr ⟨(hw _ (List.mem_of_getElem? (i := 22) rfl)), rfl, hnm⟩) (hw _ (List.mem_of_getElem? (i := 6) rfl)) (ty := .int) (by decide) rfl rfl (g := (mkF m 51 #[.val (.ref a), .val (.int it), .val (.int cu)] [(.int cu), (.ref a)])) rfl rfl (hb hby d2_51)
          refine Ends.by st3 ?_
          have F_a_customers_3 : Fld Z h3 a "com/example/palimpsest/palimpsest/workload/tpcc/Population$Scale" "customers" "I" (.int cu) := F_a_customers_2.same W3
          have N3 := Fr.snoc X3 N2 ga
          have E_a_3 : Exa Z h3 a "com/example/palimpsest/palimpsest/workload/tpcc/Population$Scale" := E_a_2.wr W3
          have F_a_items_3 : Fld Z h3 a "com/example/palimpsest/palimpsest/workload/tpcc/Population$Scale" "items" "I" (.int it) := F_a_items_2.other W3 (Or.inr (slot_ne (Or.inr (hw _ (List.mem_of_getElem? (i := 20) rfl))) (Or.inr (hw _ (List.mem_of_getElem? (i := 22) rfl))) (by decide) (t := .int) (t' := .int) (by decide) (by decide)))
          have Z3 : n0 ≤ h3.size := Nat.le_trans Z2 (Nat.le_of_eq W3.size.symm)
          have K3 : Keep h0 h3 [a] := K2.wr W3 (Or.inl (List.mem_of_getElem? (i := 0) rfl))
          show Ends p e below _ T3 (mkF m 54 #[.val (.ref a), .val (.int it), .val (.int cu)] [])
          exact Ends.retV X3 hx hlk hret (hb hby d2_54) (by decide) (by decide) (by rw [e3]; exact ⟨rfl, N3, K3, E_a_3, F_a_customers_3⟩)
        · have c26 : ¬ ((cu % (30 : Int32)) = (0 : Int32)) := own_eq.2 q
          exact absurd p4 c26
theorem d5_0 : decode prog_32_method_2_code 0 = .ok (.aload_n 0, 1) := by decide +kernel
theorem d5_1 : decode prog_32_method_2_code 1 = .ok (.getfield 22, 3) := by decide +kernel
theorem d5_4 : decode prog_32_method_2_code 4 = .ok (.aload_n 0, 1) := by decide +kernel
theorem d5_5 : decode prog_32_method_2_code 5 = .ok (.getfield 22, 3) := by decide +kernel
theorem d5_8 : decode prog_32_method_2_code 8 = .ok (.iconst 3, 1) := by decide +kernel
theorem d5_9 : decode prog_32_method_2_code 9 = .ok (.imul, 1) := by decide +kernel
theorem d5_10 : decode prog_32_method_2_code 10 = .ok (.bipush 10, 2) := by decide +kernel
theorem d5_12 : decode prog_32_method_2_code 12 = .ok (.idiv, 1) := by decide +kernel
theorem d5_13 : decode prog_32_method_2_code 13 = .ok (.isub, 1) := by decide +kernel
theorem d5_14 : decode prog_32_method_2_code 14 = .ok (.iconst 1, 1) := by decide +kernel
theorem d5_15 : decode prog_32_method_2_code 15 = .ok (.iadd, 1) := by decide +kernel
theorem d5_16 : decode prog_32_method_2_code 16 = .ok (.ireturn, 1) := by decide +kernel
theorem pd_5 : parseMethodDescriptor "()I" = some ⟨[], some .int⟩ := by decide +kernel
theorem pf_5 : plainFor (⟨"com/example/palimpsest/palimpsest/workload/tpcc/Population$Scale", "firstNewOrder", "()I"⟩ : MethodName) = true := plainFor_of_name (by first | (simp [plainName, overriddenIn, x]; done) | decide +kernel)
theorem ef_5 (m : MethodId) (a : Addr) : entryFrame m #[(.ref a)] 1 = mkF m 0 #[.val (.ref a)] [] := by first | (simp [entryFrame, mkF, argsToLocals, Value.category]; done) | rfl
set_option maxRecDepth 65536 in
set_option maxHeartbeats 40000000 in
theorem con_5 (l : Launch) (Z : State) (a0 : Array Value) (hw : ∀ d ∈ tables_1, d.before a0 Z = true) (a : Addr) (cu : Int32) (h0 : Heap) (n0 : Nat) (Z0 : n0 ≤ h0.size) (F1 : Fld Z h0 a "com/example/palimpsest/palimpsest/workload/tpcc/Population$Scale" "customers" "I" (.int cu)) : Con l Z (⟨"com/example/palimpsest/palimpsest/workload/tpcc/Population$Scale", "firstNewOrder", "()I"⟩ : MethodName) prog_32_method_2_code 1 (some .int) ({ frames := 0, cells := 0, slots := 0, locals := 0 } : Room) #[(.ref a)] h0 (Pure h0 (some (.int (cu - cu * 3 / 10 + 1)))) := by
  refine Con.intro pf_5 ?_
  intro p e s m below meth c s₁ hx hby hml hown hnm hret hlk hZ X0 e0
  refine Ends.cast (ef_5 m a) ?_
  have N0 := Fr.nil n0
  refine Ends.by (fun _ => XS.aloadN X0.here hx rfl (hb hby d5_0) rfl rfl) ?_
  show Ends p e below _ s₁ (mkF m 1 #[.val (.ref a)] [(.ref a)])
  obtain ⟨T1, X1, e1, st1⟩ := getF X0 hx hZ hown (host := "") (Or.inl (hw _ (List.mem_of_getElem? (i := 21) rfl))) Via.refl e0 F1 (g := (mkF m 1 #[.val (.ref a)] [(.ref a)])) rfl rfl (hb hby d5_1)
  refine Ends.by st1 ?_
  show Ends p e below _ T1 (mkF m 4 #[.val (.ref a)] [(.int cu)])
  refine Ends.by (fun _ => XS.aloadN X1.here hx rfl (hb hby d5_4) rfl rfl) ?_
  show Ends p e below _ T1 (mkF m 5 #[.val (.ref a)] [(.ref a), (.int cu)])
  obtain ⟨T2, X2, e2, st2⟩ := getF X1 hx hZ hown (host := "") (Or.inl (hw _ (List.mem_of_getElem? (i := 21) rfl))) Via.refl e1 F1 (g := (mkF m 5 #[.val (.ref a)] [(.ref a), (.int cu)])) rfl rfl (hb hby d5_5)
  refine Ends.by st2 ?_
  show Ends p e below _ T2 (mkF m 8 #[.val (.ref a)] [(.int cu), (.int cu)])
  refine Ends.by (fun _ => XS.iconst X2.here hx rfl (hb hby d5_8)) ?_
  show Ends p e below _ T2 (mkF m 9 #[.val (.ref a)] [(.int (3 : Int32)), (.int cu), (.int cu)])
  refine Ends.by (fun _ => XS.imul X2.here hx rfl (hb hby d5_9) rfl) ?_
  show Ends p e below _ T2 (mkF m 10 #[.val (.ref a)] [(.int (cu * (3 : Int32))), (.int cu)])
  refine Ends.by (fun _ => XS.bipush X2.here hx rfl (hb hby d5_10)) ?_
  show Ends p e below _ T2 (mkF m 12 #[.val (.ref a)] [(.int (10 : Int32)), (.int (cu * (3 : Int32))), (.int cu)])
  refine Ends.by (fun _ => XS.idiv X2.here hx rfl (hb hby d5_12) rfl (by decide)) ?_
  show Ends p e below _ T2 (mkF m 13 #[.val (.ref a)] [(.int ((cu * (3 : Int32)) / (10 : Int32))), (.int cu)])
  refine Ends.by (fun _ => XS.isub X2.here hx rfl (hb hby d5_13) rfl) ?_
  show Ends p e below _ T2 (mkF m 14 #[.val (.ref a)] [(.int (cu - ((cu * (3 : Int32)) / (10 : Int32))))])
  refine Ends.by (fun _ => XS.iconst X2.here hx rfl (hb hby d5_14)) ?_
  show Ends p e below _ T2 (mkF m 15 #[.val (.ref a)] [(.int (1 : Int32)), (.int (cu - ((cu * (3 : Int32)) / (10 : Int32))))])
  refine Ends.by (fun _ => XS.iadd X2.here hx rfl (hb hby d5_15) rfl) ?_
  show Ends p e below _ T2 (mkF m 16 #[.val (.ref a)] [(.int ((cu - ((cu * (3 : Int32)) / (10 : Int32))) + (1 : Int32)))])
  exact Ends.retI X2 hx hlk hret (hb hby d5_16) (by decide) (by decide) (by rw [e2]; exact ⟨rfl, rfl, rfl⟩)
theorem own_items (a : Int32) : ¬ f_1 (1 : Int32) a < 1 := by
  simp only [f_1]
  split
  · rename_i h
    rw [Int32.lt_iff_toInt_lt] at h ⊢
    omega
  · decide
theorem own_k (b : Int32) : 1 ≤ ((b &&& 2147483647) % 100 + 1).toInt ∧ ((b &&& 2147483647) % 100 + 1).toInt ≤ 100 := by
  have e1 : (b &&& 2147483647).toInt = b.toInt % (2 ^ 31 : Nat) := c_mask b 2147483647 31 (by decide) (by decide)
  have e2 := (c_irem (b &&& 2147483647) 100 100 (by decide)).1 (by omega)
  have e3 := c_iadd ((b &&& 2147483647) % 100) 1
  have e4 : (1 : Int32).toInt = 1 := by decide
  have r := rng32 ((b &&& 2147483647) % 100 + 1)
  omega
theorem own_30 (k : Int32) (h : 1 ≤ k.toInt ∧ k.toInt ≤ 100) : (30 * k).toInt = 30 * k.toInt := by
  have e := c_imul 30 k
  have e4 : (30 : Int32).toInt = 30 := by decide
  have r := rng32 (30 * k)
  rw [e4] at e
  omega
theorem own_cu (b : Int32) : ¬ (30 * ((b &&& 2147483647) % 100 + 1)) < 30 ∧ ¬ 3000 < (30 * ((b &&& 2147483647) % 100 + 1)) ∧ (30 * ((b &&& 2147483647) % 100 + 1)) % 30 = 0 := by
  have hk := own_k b
  generalize (b &&& 2147483647) % 100 + 1 = k at hk ⊢
  have e := own_30 k hk
  have e4 : (30 : Int32).toInt = 30 := by decide
  have e5 : (3000 : Int32).toInt = 3000 := by decide
  have e6 := (c_irem (30 * k) 30 30 (by decide)).1 (by omega)
  rw [Int32.lt_iff_toInt_lt, Int32.lt_iff_toInt_lt, ← Int32.toInt_inj]
  have e7 : (0 : Int32).toInt = 0 := by decide
  omega
theorem own_nine (k : Int32) (h : 1 ≤ k.toInt ∧ k.toInt ≤ 100) : (30 * k * 3 / 10).toInt = 9 * k.toInt := by
  have e := own_30 k h
  have e1 := c_imul (30 * k) 3
  have e4 : (3 : Int32).toInt = 3 := by decide
  have r := rng32 (30 * k * 3)
  rw [e4] at e1
  have e5 := own_wrap e1 r (by omega)
  have e2 := (c_idiv (30 * k * 3) 10 10 (by decide) (by decide)).1 (by omega)
  omega
theorem own_first (k : Int32) (h : 1 ≤ k.toInt ∧ k.toInt ≤ 100) : 30 * k - 30 * k * 3 / 10 + 1 = 21 * k + 1 := by
  have e := own_30 k h
  have e1 := own_nine k h
  have e2 := c_isub (30 * k) (30 * k * 3 / 10)
  have e3 := c_imul 21 k
  have e4 : (21 : Int32).toInt = 21 := by decide
  have r1 := rng32 (30 * k - 30 * k * 3 / 10)
  have r2 := rng32 (21 * k)
  rw [e4] at e3
  have q : 30 * k - 30 * k * 3 / 10 = 21 * k := by apply Int32.toInt_inj.mp; omega
  rw [q]
theorem own_und (k : Int32) (h : 1 ≤ k.toInt ∧ k.toInt ≤ 100) : (30 * k - (30 * k - 30 * k * 3 / 10 + 1) + 1) * 10 = 30 * k * 3 := by
  have e := own_30 k h
  have e1 := own_nine k h
  have q : 30 * k - (30 * k - 30 * k * 3 / 10 + 1) + 1 = 30 * k * 3 / 10 := by
    apply Int32.toInt_inj.mp
    have a1 := c_isub (30 * k) (30 * k * 3 / 10)
    have a2 := c_iadd (30 * k - 30 * k * 3 / 10) 1
    have a3 := c_isub (30 * k) (30 * k - 30 * k * 3 / 10 + 1)
    have a4 := c_iadd (30 * k - (30 * k - 30 * k * 3 / 10 + 1)) 1
    have a5 := rng32 (30 * k - (30 * k - 30 * k * 3 / 10 + 1) + 1)
    have e4 : (1 : Int32).toInt = 1 := by decide
    omega
  rw [q]
  apply Int32.toInt_inj.mp
  have a1 := c_imul (30 * k * 3 / 10) 10
  have a2 := c_imul (30 * k) 3
  have e4 : (3 : Int32).toInt = 3 := by decide
  have e5 : (10 : Int32).toInt = 10 := by decide
  have a5 := rng32 (30 * k * 3 / 10 * 10)
  have a6 := rng32 (30 * k * 3)
  rw [e5] at a1
  rw [e4] at a2
  omega
theorem pd_0 : parseMethodDescriptor "(II)Z" = some ⟨[.int, .int], some .boolean⟩ := by decide +kernel
theorem pf_0 : plainFor x = true := plainFor_of_name (by first | (simp [plainName, overriddenIn, x]; done) | decide +kernel)
theorem ef_0 (m : MethodId) (i0 : Int32) (i1 : Int32) : entryFrame m #[(.int i0), (.int i1)] maxLocals = mkF m 0 #[.val (.int i0), .val (.int i1), .unset, .unset, .unset, .unset, .unset, .unset] [] := by first | (simp [entryFrame, mkF, argsToLocals, Value.category, maxLocals]; done) | rfl
set_option maxRecDepth 65536 in
set_option maxHeartbeats 40000000 in
theorem con_0 (l : Launch) (Z : State) (a0 : Array Value) (hw : ∀ d ∈ tables_1, d.before a0 Z = true) (i0 : Int32) (i1 : Int32)  (h0 : Heap) (n0 : Nat) (Z0 : n0 ≤ h0.size) : Con l Z x code maxLocals ret room_1 #[(.int i0), (.int i1)] h0 (fun v h L => v = some (.int 1) ∧ Fr n0 L) := by
  refine Con.intro pf_0 ?_
  intro p e s m below meth c s₁ hx hby hml hown hnm hret hlk hZ X0 e0
  refine Ends.cast (ef_0 m i0 i1) ?_
  have N0 := Fr.nil n0
  refine Ends.by (fun _ => XS.iconst X0.here hx rfl (hb hby at_0)) ?_
  show Ends p e below _ s₁ (mkF m 1 #[.val (.int i0), .val (.int i1), .unset, .unset, .unset, .unset, .unset, .unset] [(.int (1 : Int32))])
  refine Ends.by (fun _ => XS.iloadN X0.here hx rfl (hb hby at_1) rfl) ?_
  show Ends p e below _ s₁ (mkF m 2 #[.val (.int i0), .val (.int i1), .unset, .unset, .unset, .unset, .unset, .unset] [(.int i0), (.int (1 : Int32))])
  refine Ends.by (X0.ldcInt hx hown (mvT hZ (hw _ (List.mem_of_getElem? (i := 0) rfl))) (g := (mkF m 2 #[.val (.int i0), .val (.int i1), .unset, .unset, .unset, .unset, .unset, .unset] [(.int i0), (.int (1 : Int32))])) rfl (hb hby at_2)) ?_
  show Ends p e below _ s₁ (mkF m 4 #[.val (.int i0), .val (.int i1), .unset, .unset, .unset, .unset, .unset, .unset] [(.int (2147483647 : Int32)), (.int i0), (.int (1 : Int32))])
  refine Ends.by (fun _ => XS.iand X0.here hx rfl (hb hby at_4) rfl) ?_
  show Ends p e below _ s₁ (mkF m 5 #[.val (.int i0), .val (.int i1), .unset, .unset, .unset, .unset, .unset, .unset] [(.int (i0 &&& (2147483647 : Int32))), (.int (1 : Int32))])
  refine Ends.callS (argsL := [(.int (1 : Int32)), (.int (i0 &&& (2147483647 : Int32)))]) (rest := []) X0 hx hZ hown (hw _ (List.mem_of_getElem? (i := 1) rfl)) (hw _ (List.mem_of_getElem? (i := 2) rfl)) (hw _ (List.mem_of_getElem? (i := 3) rfl)) (hw _ (List.mem_of_getElem? (i := 4) rfl)) (by decide) (con_1 l Z a0 hw (1 : Int32) (i0 &&& (2147483647 : Int32)) h0) e0 (by rw [hml]; rfl) (hb hby at_5) (lenOf pd_1 rfl) 0 (Nat.le_of_eq rfl) (by decide) (by decide) (by decide) (by decide) ?_
  intro v T1 L1 X1 hQ
  obtain ⟨rfl, e1, rfl⟩ := hQ
  rw [List.append_nil] at X1
  show Ends p e below _ T1 (mkF m 8 #[.val (.int i0), .val (.int i1), .unset, .unset, .unset, .unset, .unset, .unset] [(.int (f_1 (1 : Int32) (i0 &&& (2147483647 : Int32))))])
  refine Ends.by (fun _ => XS.istoreN X1.here hx rfl (hb hby at_8) rfl (l' := #[.val (.int i0), .val (.int i1), .val (.int (f_1 (1 : Int32) (i0 &&& (2147483647 : Int32)))), .unset, .unset, .unset, .unset, .unset]) rfl) ?_
  show Ends p e below _ T1 (mkF m 9 #[.val (.int i0), .val (.int i1), .val (.int (f_1 (1 : Int32) (i0 &&& (2147483647 : Int32)))), .unset, .unset, .unset, .unset, .unset] [])
  refine Ends.by (fun _ => XS.iloadN X1.here hx rfl (hb hby at_9) rfl) ?_
  show Ends p e below _ T1 (mkF m 10 #[.val (.int i0), .val (.int i1), .val (.int (f_1 (1 : Int32) (i0 &&& (2147483647 : Int32)))), .unset, .unset, .unset, .unset, .unset] [(.int i1)])
  refine Ends.by (X1.ldcInt hx hown (mvT hZ (hw _ (List.mem_of_getElem? (i := 0) rfl))) (g := (mkF m 10 #[.val (.int i0), .val (.int i1), .val (.int (f_1 (1 : Int32) (i0 &&& (2147483647 : Int32)))), .unset, .unset, .unset, .unset, .unset] [(.int i1)])) rfl (hb hby at_10)) ?_
  show Ends p e below _ T1 (mkF m 12 #[.val (.int i0), .val (.int i1), .val (.int (f_1 (1 : Int32) (i0 &&& (2147483647 : Int32)))), .unset, .unset, .unset, .unset, .unset] [(.int (2147483647 : Int32)), (.int i1)])
  refine Ends.by (fun _ => XS.iand X1.here hx rfl (hb hby at_12) rfl) ?_
  show Ends p e below _ T1 (mkF m 13 #[.val (.int i0), .val (.int i1), .val (.int (f_1 (1 : Int32) (i0 &&& (2147483647 : Int32)))), .unset, .unset, .unset, .unset, .unset] [(.int (i1 &&& (2147483647 : Int32)))])
  refine Ends.by (fun _ => XS.bipush X1.here hx rfl (hb hby at_13)) ?_
  show Ends p e below _ T1 (mkF m 15 #[.val (.int i0), .val (.int i1), .val (.int (f_1 (1 : Int32) (i0 &&& (2147483647 : Int32)))), .unset, .unset, .unset, .unset, .unset] [(.int (100 : Int32)), (.int (i1 &&& (2147483647 : Int32)))])
  refine Ends.by (fun _ => iremM (g := (mkF m 15 #[.val (.int i0), .val (.int i1), .val (.int (f_1 (1 : Int32) (i0 &&& (2147483647 : Int32)))), .unset, .unset, .unset, .unset, .unset] [(.int (100 : Int32)), (.int (i1 &&& (2147483647 : Int32)))])) X1 hx rfl (hb hby at_15) rfl (by decide)) ?_
  show Ends p e below _ T1 (mkF m 16 #[.val (.int i0), .val (.int i1), .val (.int (f_1 (1 : Int32) (i0 &&& (2147483647 : Int32)))), .unset, .unset, .unset, .unset, .unset] [(.int ((i1 &&& (2147483647 : Int32)) % (100 : Int32)))])
  refine Ends.by (fun _ => XS.iconst X1.here hx rfl (hb hby at_16)) ?_
  show Ends p e below _ T1 (mkF m 17 #[.val (.int i0), .val (.int i1), .val (.int (f_1 (1 : Int32) (i0 &&& (2147483647 : Int32)))), .unset, .unset, .unset, .unset, .unset] [(.int (1 : Int32)), (.int ((i1 &&& (2147483647 : Int32)) % (100 : Int32)))])
  refine Ends.by (fun _ => XS.iadd X1.here hx rfl (hb hby at_17) rfl) ?_
  show Ends p e below _ T1 (mkF m 18 #[.val (.int i0), .val (.int i1), .val (.int (f_1 (1 : Int32) (i0 &&& (2147483647 : Int32)))), .unset, .unset, .unset, .unset, .unset] [(.int (((i1 &&& (2147483647 : Int32)) % (100 : Int32)) + (1 : Int32)))])
  refine Ends.by (fun _ => XS.istoreN X1.here hx rfl (hb hby at_18) rfl (l' := #[.val (.int i0), .val (.int i1), .val (.int (f_1 (1 : Int32) (i0 &&& (2147483647 : Int32)))), .val (.int (((i1 &&& (2147483647 : Int32)) % (100 : Int32)) + (1 : Int32))), .unset, .unset, .unset, .unset]) rfl) ?_
  show Ends p e below _ T1 (mkF m 19 #[.val (.int i0), .val (.int i1), .val (.int (f_1 (1 : Int32) (i0 &&& (2147483647 : Int32)))), .val (.int (((i1 &&& (2147483647 : Int32)) % (100 : Int32)) + (1 : Int32))), .unset, .unset, .unset, .unset] [])
  refine Ends.by (fun _ => XS.bipush X1.here hx rfl (hb hby at_19)) ?_
  show Ends p e below _ T1 (mkF m 21 #[.val (.int i0), .val (.int i1), .val (.int (f_1 (1 : Int32) (i0 &&& (2147483647 : Int32)))), .val (.int (((i1 &&& (2147483647 : Int32)) % (100 : Int32)) + (1 : Int32))), .unset, .unset, .unset, .unset] [(.int (30 : Int32))])
  refine Ends.by (fun _ => XS.iloadN X1.here hx rfl (hb hby at_21) rfl) ?_
  show Ends p e below _ T1 (mkF m 22 #[.val (.int i0), .val (.int i1), .val (.int (f_1 (1 : Int32) (i0 &&& (2147483647 : Int32)))), .val (.int (((i1 &&& (2147483647 : Int32)) % (100 : Int32)) + (1 : Int32))), .unset, .unset, .unset, .unset] [(.int (((i1 &&& (2147483647 : Int32)) % (100 : Int32)) + (1 : Int32))), (.int (30 : Int32))])
  refine Ends.by (fun _ => XS.imul X1.here hx rfl (hb hby at_22) rfl) ?_
  show Ends p e below _ T1 (mkF m 23 #[.val (.int i0), .val (.int i1), .val (.int (f_1 (1 : Int32) (i0 &&& (2147483647 : Int32)))), .val (.int (((i1 &&& (2147483647 : Int32)) % (100 : Int32)) + (1 : Int32))), .unset, .unset, .unset, .unset] [(.int ((30 : Int32) * (((i1 &&& (2147483647 : Int32)) % (100 : Int32)) + (1 : Int32))))])
  refine Ends.by (fun _ => XS.istore X1.here hx rfl (hb hby at_23) rfl (l' := #[.val (.int i0), .val (.int i1), .val (.int (f_1 (1 : Int32) (i0 &&& (2147483647 : Int32)))), .val (.int (((i1 &&& (2147483647 : Int32)) % (100 : Int32)) + (1 : Int32))), .val (.int ((30 : Int32) * (((i1 &&& (2147483647 : Int32)) % (100 : Int32)) + (1 : Int32)))), .unset, .unset, .unset]) rfl) ?_
  show Ends p e below _ T1 (mkF m 25 #[.val (.int i0), .val (.int i1), .val (.int (f_1 (1 : Int32) (i0 &&& (2147483647 : Int32)))), .val (.int (((i1 &&& (2147483647 : Int32)) % (100 : Int32)) + (1 : Int32))), .val (.int ((30 : Int32) * (((i1 &&& (2147483647 : Int32)) % (100 : Int32)) + (1 : Int32)))), .unset, .unset, .unset] [])
  obtain ⟨T2, h2, X2, e2, E2, A2, D2, -, st2⟩ := newO X1 hx hZ hown (hw _ (List.mem_of_getElem? (i := 5) rfl)) (hw _ (List.mem_of_getElem? (i := 6) rfl)) (hw _ (List.mem_of_getElem? (i := 7) rfl)) e1 (g := (mkF m 25 #[.val (.int i0), .val (.int i1), .val (.int (f_1 (1 : Int32) (i0 &&& (2147483647 : Int32)))), .val (.int (((i1 &&& (2147483647 : Int32)) % (100 : Int32)) + (1 : Int32))), .val (.int ((30 : Int32) * (((i1 &&& (2147483647 : Int32)) % (100 : Int32)) + (1 : Int32)))), .unset, .unset, .unset] [])) rfl (hb hby at_25) (by decide) (by decide)
  obtain ⟨b2, g2⟩ : ∃ z, z = h0.size := ⟨_, rfl⟩
  rw [← g2] at A2 D2 st2
  refine Ends.by st2 ?_
  have Z2 : n0 ≤ h2.size := Nat.le_trans Z0 E2.1
  have g_b2 : n0 ≤ b2 := Nat.le_trans Z0 (Nat.le_of_eq g2.symm)
  have F_b2_items : Fld Z h2 b2 "com/example/palimpsest/palimpsest/workload/tpcc/Population$Scale" "items" "I" (.int (0 : Int32)) := D2 (Or.inr (hw _ (List.mem_of_getElem? (i := 20) rfl))) (ty := .int) (by decide)
  have F_b2_customers : Fld Z h2 b2 "com/example/palimpsest/palimpsest/workload/tpcc/Population$Scale" "customers" "I" (.int (0 : Int32)) := D2 (Or.inr (hw _ (List.mem_of_getElem? (i := 22) rfl))) (ty := .int) (by decide)
  show Ends p e below _ T2 (mkF m 28 #[.val (.int i0), .val (.int i1), .val (.int (f_1 (1 : Int32) (i0 &&& (2147483647 : Int32)))), .val (.int (((i1 &&& (2147483647 : Int32)) % (100 : Int32)) + (1 : Int32))), .val (.int ((30 : Int32) * (((i1 &&& (2147483647 : Int32)) % (100 : Int32)) + (1 : Int32)))), .unset, .unset, .unset] [(.ref b2)])
  refine Ends.by (fun _ => XS.dup X2.here hx rfl (hb hby at_28) rfl rfl) ?_
  show Ends p e below _ T2 (mkF m 29 #[.val (.int i0), .val (.int i1), .val (.int (f_1 (1 : Int32) (i0 &&& (2147483647 : Int32)))), .val (.int (((i1 &&& (2147483647 : Int32)) % (100 : Int32)) + (1 : Int32))), .val (.int ((30 : Int32) * (((i1 &&& (2147483647 : Int32)) % (100 : Int32)) + (1 : Int32)))), .unset, .unset, .unset] [(.ref b2), (.ref b2)])
  refine Ends.by (fun _ => XS.iloadN X2.here hx rfl (hb hby at_29) rfl) ?_
  show Ends p e below _ T2 (mkF m 30 #[.val (.int i0), .val (.int i1), .val (.int (f_1 (1 : Int32) (i0 &&& (2147483647 : Int32)))), .val (.int (((i1 &&& (2147483647 : Int32)) % (100 : Int32)) + (1 : Int32))), .val (.int ((30 : Int32) * (((i1 &&& (2147483647 : Int32)) % (100 : Int32)) + (1 : Int32)))), .unset, .unset, .unset] [(.int (f_1 (1 : Int32) (i0 &&& (2147483647 : Int32)))), (.ref b2), (.ref b2)])
  refine Ends.by (fun _ => XS.iload X2.here hx rfl (hb hby at_30) rfl) ?_
  show Ends p e below _ T2 (mkF m 32 #[.val (.int i0), .val (.int i1), .val (.int (f_1 (1 : Int32) (i0 &&& (2147483647 : Int32)))), .val (.int (((i1 &&& (2147483647 : Int32)) % (100 : Int32)) + (1 : Int32))), .val (.int ((30 : Int32) * (((i1 &&& (2147483647 : Int32)) % (100 : Int32)) + (1 : Int32)))), .unset, .unset, .unset] [(.int ((30 : Int32) * (((i1 &&& (2147483647 : Int32)) % (100 : Int32)) + (1 : Int32)))), (.int (f_1 (1 : Int32) (i0 &&& (2147483647 : Int32)))), (.ref b2), (.ref b2)])
  refine Ends.callI (a := b2) (argsL := [(.int (f_1 (1 : Int32) (i0 &&& (2147483647 : Int32)))), (.int ((30 : Int32) * (((i1 &&& (2147483647 : Int32)) % (100 : Int32)) + (1 : Int32))))]) (rest := [(.ref b2)]) X2 hx hZ rfl hown (hw _ (List.mem_of_getElem? (i := 8) rfl)) (hw _ (List.mem_of_getElem? (i := 9) rfl)) (hw _ (List.mem_of_getElem? (i := 7) rfl)) (hw _ (List.mem_of_getElem? (i := 10) rfl)) (by decide) (con_2 l Z a0 hw b2 (f_1 (1 : Int32) (i0 &&& (2147483647 : Int32))) ((30 : Int32) * (((i1 &&& (2147483647 : Int32)) % (100 : Int32)) + (1 : Int32))) h2 n0 Z2 A2 F_b2_items F_b2_customers g_b2 (own_items _) (own_cu _).1 (own_cu _).2.1 (own_cu _).2.2) e2 (by rw [hml]; rfl) (hb hby at_32) (lenOf pd_2 rfl) 1 (Nat.le_of_eq rfl) (by decide) (by decide) (by decide) (by decide) ?_
  intro v T3 L3 X3 hQ
  obtain ⟨rfl, N3q, K3q, E3q, F3q⟩ := hQ
  have N3 := Fr.app N0 N3q
  have E_b2_3 : Exa Z T3.heap b2 "com/example/palimpsest/palimpsest/workload/tpcc/Population$Scale" := A2.keep K3q
  have Z3 : n0 ≤ T3.heap.size := Nat.le_trans Z2 K3q.1
  show Ends p e below _ T3 (mkF m 35 #[.val (.int i0), .val (.int i1), .val (.int (f_1 (1 : Int32) (i0 &&& (2147483647 : Int32)))), .val (.int (((i1 &&& (2147483647 : Int32)) % (100 : Int32)) + (1 : Int32))), .val (.int ((30 : Int32) * (((i1 &&& (2147483647 : Int32)) % (100 : Int32)) + (1 : Int32)))), .unset, .unset, .unset] [(.ref b2)])
  refine Ends.by (fun _ => XS.astore X3.here hx rfl (hb hby at_35) rfl rfl (l' := #[.val (.int i0), .val (.int i1), .val (.int (f_1 (1 : Int32) (i0 &&& (2147483647 : Int32)))), .val (.int (((i1 &&& (2147483647 : Int32)) % (100 : Int32)) + (1 : Int32))), .val (.int ((30 : Int32) * (((i1 &&& (2147483647 : Int32)) % (100 : Int32)) + (1 : Int32)))), .val (.ref b2), .unset, .unset]) rfl) ?_
  show Ends p e below _ T3 (mkF m 37 #[.val (.int i0), .val (.int i1), .val (.int (f_1 (1 : Int32) (i0 &&& (2147483647 : Int32)))), .val (.int (((i1 &&& (2147483647 : Int32)) % (100 : Int32)) + (1 : Int32))), .val (.int ((30 : Int32) * (((i1 &&& (2147483647 : Int32)) % (100 : Int32)) + (1 : Int32)))), .val (.ref b2), .unset, .unset] [])
  refine Ends.by (fun _ => XS.aload X3.here hx rfl (hb hby at_37) rfl rfl) ?_
  show Ends p e below _ T3 (mkF m 39 #[.val (.int i0), .val (.int i1), .val (.int (f_1 (1 : Int32) (i0 &&& (2147483647 : Int32)))), .val (.int (((i1 &&& (2147483647 : Int32)) % (100 : Int32)) + (1 : Int32))), .val (.int ((30 : Int32) * (((i1 &&& (2147483647 : Int32)) % (100 : Int32)) + (1 : Int32)))), .val (.ref b2), .unset, .unset] [(.ref b2)])
  refine Ends.callV (a := b2) (argsL := []) (rest := []) X3 hx hZ hown (hw _ (List.mem_of_getElem? (i := 23) rfl)) (hw _ (List.mem_of_getElem? (i := 24) rfl)) (hw _ (List.mem_of_getElem? (i := 25) rfl)) (hw _ (List.mem_of_getElem? (i := 26) rfl)) (hw _ (List.mem_of_getElem? (i := 7) rfl)) (hw _ (List.mem_of_getElem? (i := 27) rfl)) (by decide) (con_5 l Z a0 hw b2 ((30 : Int32) * (((i1 &&& (2147483647 : Int32)) % (100 : Int32)) + (1 : Int32))) T3.heap n0 Z3 F3q) rfl E3q (by rw [hml]; rfl) (hb hby at_39) (lenOf pd_5 rfl) 0 (Nat.le_of_eq rfl) (by decide) (by decide) (by decide) (by decide) ?_
  intro v T4 L4 X4 hQ
  obtain ⟨rfl, e4, rfl⟩ := hQ
  rw [List.append_nil] at X4
  show Ends p e below _ T4 (mkF m 42 #[.val (.int i0), .val (.int i1), .val (.int (f_1 (1 : Int32) (i0 &&& (2147483647 : Int32)))), .val (.int (((i1 &&& (2147483647 : Int32)) % (100 : Int32)) + (1 : Int32))), .val (.int ((30 : Int32) * (((i1 &&& (2147483647 : Int32)) % (100 : Int32)) + (1 : Int32)))), .val (.ref b2), .unset, .unset] [(.int (((30 : Int32) * (((i1 &&& (2147483647 : Int32)) % (100 : Int32)) + (1 : Int32))) - ((30 : Int32) * (((i1 &&& (2147483647 : Int32)) % (100 : Int32)) + (1 : Int32))) * 3 / 10 + 1))])
  refine Ends.by (fun _ => XS.istore X4.here hx rfl (hb hby at_42) rfl (l' := #[.val (.int i0), .val (.int i1), .val (.int (f_1 (1 : Int32) (i0 &&& (2147483647 : Int32)))), .val (.int (((i1 &&& (2147483647 : Int32)) % (100 : Int32)) + (1 : Int32))), .val (.int ((30 : Int32) * (((i1 &&& (2147483647 : Int32)) % (100 : Int32)) + (1 : Int32)))), .val (.ref b2), .val (.int (((30 : Int32) * (((i1 &&& (2147483647 : Int32)) % (100 : Int32)) + (1 : Int32))) - ((30 : Int32) * (((i1 &&& (2147483647 : Int32)) % (100 : Int32)) + (1 : Int32))) * 3 / 10 + 1)), .unset]) rfl) ?_
  show Ends p e below _ T4 (mkF m 44 #[.val (.int i0), .val (.int i1), .val (.int (f_1 (1 : Int32) (i0 &&& (2147483647 : Int32)))), .val (.int (((i1 &&& (2147483647 : Int32)) % (100 : Int32)) + (1 : Int32))), .val (.int ((30 : Int32) * (((i1 &&& (2147483647 : Int32)) % (100 : Int32)) + (1 : Int32)))), .val (.ref b2), .val (.int (((30 : Int32) * (((i1 &&& (2147483647 : Int32)) % (100 : Int32)) + (1 : Int32))) - ((30 : Int32) * (((i1 &&& (2147483647 : Int32)) % (100 : Int32)) + (1 : Int32))) * 3 / 10 + 1)), .unset] [])
  refine Ends.by (fun _ => XS.iload X4.here hx rfl (hb hby at_44) rfl) ?_
  show Ends p e below _ T4 (mkF m 46 #[.val (.int i0), .val (.int i1), .val (.int (f_1 (1 : Int32) (i0 &&& (2147483647 : Int32)))), .val (.int (((i1 &&& (2147483647 : Int32)) % (100 : Int32)) + (1 : Int32))), .val (.int ((30 : Int32) * (((i1 &&& (2147483647 : Int32)) % (100 : Int32)) + (1 : Int32)))), .val (.ref b2), .val (.int (((30 : Int32) * (((i1 &&& (2147483647 : Int32)) % (100 : Int32)) + (1 : Int32))) - ((30 : Int32) * (((i1 &&& (2147483647 : Int32)) % (100 : Int32)) + (1 : Int32))) * 3 / 10 + 1)), .unset] [(.int ((30 : Int32) * (((i1 &&& (2147483647 : Int32)) % (100 : Int32)) + (1 : Int32))))])
  refine Ends.by (fun _ => XS.iload X4.here hx rfl (hb hby at_46) rfl) ?_
  show Ends p e below _ T4 (mkF m 48 #[.val (.int i0), .val (.int i1), .val (.int (f_1 (1 : Int32) (i0 &&& (2147483647 : Int32)))), .val (.int (((i1 &&& (2147483647 : Int32)) % (100 : Int32)) + (1 : Int32))), .val (.int ((30 : Int32) * (((i1 &&& (2147483647 : Int32)) % (100 : Int32)) + (1 : Int32)))), .val (.ref b2), .val (.int (((30 : Int32) * (((i1 &&& (2147483647 : Int32)) % (100 : Int32)) + (1 : Int32))) - ((30 : Int32) * (((i1 &&& (2147483647 : Int32)) % (100 : Int32)) + (1 : Int32))) * 3 / 10 + 1)), .unset] [(.int (((30 : Int32) * (((i1 &&& (2147483647 : Int32)) % (100 : Int32)) + (1 : Int32))) - ((30 : Int32) * (((i1 &&& (2147483647 : Int32)) % (100 : Int32)) + (1 : Int32))) * 3 / 10 + 1)), (.int ((30 : Int32) * (((i1 &&& (2147483647 : Int32)) % (100 : Int32)) + (1 : Int32))))])
  refine Ends.by (fun _ => XS.isub X4.here hx rfl (hb hby at_48) rfl) ?_
  show Ends p e below _ T4 (mkF m 49 #[.val (.int i0), .val (.int i1), .val (.int (f_1 (1 : Int32) (i0 &&& (2147483647 : Int32)))), .val (.int (((i1 &&& (2147483647 : Int32)) % (100 : Int32)) + (1 : Int32))), .val (.int ((30 : Int32) * (((i1 &&& (2147483647 : Int32)) % (100 : Int32)) + (1 : Int32)))), .val (.ref b2), .val (.int (((30 : Int32) * (((i1 &&& (2147483647 : Int32)) % (100 : Int32)) + (1 : Int32))) - ((30 : Int32) * (((i1 &&& (2147483647 : Int32)) % (100 : Int32)) + (1 : Int32))) * 3 / 10 + 1)), .unset] [(.int (((30 : Int32) * (((i1 &&& (2147483647 : Int32)) % (100 : Int32)) + (1 : Int32))) - (((30 : Int32) * (((i1 &&& (2147483647 : Int32)) % (100 : Int32)) + (1 : Int32))) - ((30 : Int32) * (((i1 &&& (2147483647 : Int32)) % (100 : Int32)) + (1 : Int32))) * 3 / 10 + 1)))])
  refine Ends.by (fun _ => XS.iconst X4.here hx rfl (hb hby at_49)) ?_
  show Ends p e below _ T4 (mkF m 50 #[.val (.int i0), .val (.int i1), .val (.int (f_1 (1 : Int32) (i0 &&& (2147483647 : Int32)))), .val (.int (((i1 &&& (2147483647 : Int32)) % (100 : Int32)) + (1 : Int32))), .val (.int ((30 : Int32) * (((i1 &&& (2147483647 : Int32)) % (100 : Int32)) + (1 : Int32)))), .val (.ref b2), .val (.int (((30 : Int32) * (((i1 &&& (2147483647 : Int32)) % (100 : Int32)) + (1 : Int32))) - ((30 : Int32) * (((i1 &&& (2147483647 : Int32)) % (100 : Int32)) + (1 : Int32))) * 3 / 10 + 1)), .unset] [(.int (1 : Int32)), (.int (((30 : Int32) * (((i1 &&& (2147483647 : Int32)) % (100 : Int32)) + (1 : Int32))) - (((30 : Int32) * (((i1 &&& (2147483647 : Int32)) % (100 : Int32)) + (1 : Int32))) - ((30 : Int32) * (((i1 &&& (2147483647 : Int32)) % (100 : Int32)) + (1 : Int32))) * 3 / 10 + 1)))])
  refine Ends.by (fun _ => XS.iadd X4.here hx rfl (hb hby at_50) rfl) ?_
  show Ends p e below _ T4 (mkF m 51 #[.val (.int i0), .val (.int i1), .val (.int (f_1 (1 : Int32) (i0 &&& (2147483647 : Int32)))), .val (.int (((i1 &&& (2147483647 : Int32)) % (100 : Int32)) + (1 : Int32))), .val (.int ((30 : Int32) * (((i1 &&& (2147483647 : Int32)) % (100 : Int32)) + (1 : Int32)))), .val (.ref b2), .val (.int (((30 : Int32) * (((i1 &&& (2147483647 : Int32)) % (100 : Int32)) + (1 : Int32))) - ((30 : Int32) * (((i1 &&& (2147483647 : Int32)) % (100 : Int32)) + (1 : Int32))) * 3 / 10 + 1)), .unset] [(.int ((((30 : Int32) * (((i1 &&& (2147483647 : Int32)) % (100 : Int32)) + (1 : Int32))) - (((30 : Int32) * (((i1 &&& (2147483647 : Int32)) % (100 : Int32)) + (1 : Int32))) - ((30 : Int32) * (((i1 &&& (2147483647 : Int32)) % (100 : Int32)) + (1 : Int32))) * 3 / 10 + 1)) + (1 : Int32)))])
  refine Ends.by (fun _ => XS.istore X4.here hx rfl (hb hby at_51) rfl (l' := #[.val (.int i0), .val (.int i1), .val (.int (f_1 (1 : Int32) (i0 &&& (2147483647 : Int32)))), .val (.int (((i1 &&& (2147483647 : Int32)) % (100 : Int32)) + (1 : Int32))), .val (.int ((30 : Int32) * (((i1 &&& (2147483647 : Int32)) % (100 : Int32)) + (1 : Int32)))), .val (.ref b2), .val (.int (((30 : Int32) * (((i1 &&& (2147483647 : Int32)) % (100 : Int32)) + (1 : Int32))) - ((30 : Int32) * (((i1 &&& (2147483647 : Int32)) % (100 : Int32)) + (1 : Int32))) * 3 / 10 + 1)), .val (.int ((((30 : Int32) * (((i1 &&& (2147483647 : Int32)) % (100 : Int32)) + (1 : Int32))) - (((30 : Int32) * (((i1 &&& (2147483647 : Int32)) % (100 : Int32)) + (1 : Int32))) - ((30 : Int32) * (((i1 &&& (2147483647 : Int32)) % (100 : Int32)) + (1 : Int32))) * 3 / 10 + 1)) + (1 : Int32)))]) rfl) ?_
  show Ends p e below _ T4 (mkF m 53 #[.val (.int i0), .val (.int i1), .val (.int (f_1 (1 : Int32) (i0 &&& (2147483647 : Int32)))), .val (.int (((i1 &&& (2147483647 : Int32)) % (100 : Int32)) + (1 : Int32))), .val (.int ((30 : Int32) * (((i1 &&& (2147483647 : Int32)) % (100 : Int32)) + (1 : Int32)))), .val (.ref b2), .val (.int (((30 : Int32) * (((i1 &&& (2147483647 : Int32)) % (100 : Int32)) + (1 : Int32))) - ((30 : Int32) * (((i1 &&& (2147483647 : Int32)) % (100 : Int32)) + (1 : Int32))) * 3 / 10 + 1)), .val (.int ((((30 : Int32) * (((i1 &&& (2147483647 : Int32)) % (100 : Int32)) + (1 : Int32))) - (((30 : Int32) * (((i1 &&& (2147483647 : Int32)) % (100 : Int32)) + (1 : Int32))) - ((30 : Int32) * (((i1 &&& (2147483647 : Int32)) % (100 : Int32)) + (1 : Int32))) * 3 / 10 + 1)) + (1 : Int32)))] [])
  refine Ends.by (fun _ => XS.iload X4.here hx rfl (hb hby at_53) rfl) ?_
  show Ends p e below _ T4 (mkF m 55 #[.val (.int i0), .val (.int i1), .val (.int (f_1 (1 : Int32) (i0 &&& (2147483647 : Int32)))), .val (.int (((i1 &&& (2147483647 : Int32)) % (100 : Int32)) + (1 : Int32))), .val (.int ((30 : Int32) * (((i1 &&& (2147483647 : Int32)) % (100 : Int32)) + (1 : Int32)))), .val (.ref b2), .val (.int (((30 : Int32) * (((i1 &&& (2147483647 : Int32)) % (100 : Int32)) + (1 : Int32))) - ((30 : Int32) * (((i1 &&& (2147483647 : Int32)) % (100 : Int32)) + (1 : Int32))) * 3 / 10 + 1)), .val (.int ((((30 : Int32) * (((i1 &&& (2147483647 : Int32)) % (100 : Int32)) + (1 : Int32))) - (((30 : Int32) * (((i1 &&& (2147483647 : Int32)) % (100 : Int32)) + (1 : Int32))) - ((30 : Int32) * (((i1 &&& (2147483647 : Int32)) % (100 : Int32)) + (1 : Int32))) * 3 / 10 + 1)) + (1 : Int32)))] [(.int (((30 : Int32) * (((i1 &&& (2147483647 : Int32)) % (100 : Int32)) + (1 : Int32))) - ((30 : Int32) * (((i1 &&& (2147483647 : Int32)) % (100 : Int32)) + (1 : Int32))) * 3 / 10 + 1))])
  refine Ends.by (fun _ => XS.bipush X4.here hx rfl (hb hby at_55)) ?_
  show Ends p e below _ T4 (mkF m 57 #[.val (.int i0), .val (.int i1), .val (.int (f_1 (1 : Int32) (i0 &&& (2147483647 : Int32)))), .val (.int (((i1 &&& (2147483647 : Int32)) % (100 : Int32)) + (1 : Int32))), .val (.int ((30 : Int32) * (((i1 &&& (2147483647 : Int32)) % (100 : Int32)) + (1 : Int32)))), .val (.ref b2), .val (.int (((30 : Int32) * (((i1 &&& (2147483647 : Int32)) % (100 : Int32)) + (1 : Int32))) - ((30 : Int32) * (((i1 &&& (2147483647 : Int32)) % (100 : Int32)) + (1 : Int32))) * 3 / 10 + 1)), .val (.int ((((30 : Int32) * (((i1 &&& (2147483647 : Int32)) % (100 : Int32)) + (1 : Int32))) - (((30 : Int32) * (((i1 &&& (2147483647 : Int32)) % (100 : Int32)) + (1 : Int32))) - ((30 : Int32) * (((i1 &&& (2147483647 : Int32)) % (100 : Int32)) + (1 : Int32))) * 3 / 10 + 1)) + (1 : Int32)))] [(.int (21 : Int32)), (.int (((30 : Int32) * (((i1 &&& (2147483647 : Int32)) % (100 : Int32)) + (1 : Int32))) - ((30 : Int32) * (((i1 &&& (2147483647 : Int32)) % (100 : Int32)) + (1 : Int32))) * 3 / 10 + 1))])
  refine Ends.by (fun _ => XS.iloadN X4.here hx rfl (hb hby at_57) rfl) ?_
  show Ends p e below _ T4 (mkF m 58 #[.val (.int i0), .val (.int i1), .val (.int (f_1 (1 : Int32) (i0 &&& (2147483647 : Int32)))), .val (.int (((i1 &&& (2147483647 : Int32)) % (100 : Int32)) + (1 : Int32))), .val (.int ((30 : Int32) * (((i1 &&& (2147483647 : Int32)) % (100 : Int32)) + (1 : Int32)))), .val (.ref b2), .val (.int (((30 : Int32) * (((i1 &&& (2147483647 : Int32)) % (100 : Int32)) + (1 : Int32))) - ((30 : Int32) * (((i1 &&& (2147483647 : Int32)) % (100 : Int32)) + (1 : Int32))) * 3 / 10 + 1)), .val (.int ((((30 : Int32) * (((i1 &&& (2147483647 : Int32)) % (100 : Int32)) + (1 : Int32))) - (((30 : Int32) * (((i1 &&& (2147483647 : Int32)) % (100 : Int32)) + (1 : Int32))) - ((30 : Int32) * (((i1 &&& (2147483647 : Int32)) % (100 : Int32)) + (1 : Int32))) * 3 / 10 + 1)) + (1 : Int32)))] [(.int (((i1 &&& (2147483647 : Int32)) % (100 : Int32)) + (1 : Int32))), (.int (21 : Int32)), (.int (((30 : Int32) * (((i1 &&& (2147483647 : Int32)) % (100 : Int32)) + (1 : Int32))) - ((30 : Int32) * (((i1 &&& (2147483647 : Int32)) % (100 : Int32)) + (1 : Int32))) * 3 / 10 + 1))])
  refine Ends.by (fun _ => XS.imul X4.here hx rfl (hb hby at_58) rfl) ?_
  show Ends p e below _ T4 (mkF m 59 #[.val (.int i0), .val (.int i1), .val (.int (f_1 (1 : Int32) (i0 &&& (2147483647 : Int32)))), .val (.int (((i1 &&& (2147483647 : Int32)) % (100 : Int32)) + (1 : Int32))), .val (.int ((30 : Int32) * (((i1 &&& (2147483647 : Int32)) % (100 : Int32)) + (1 : Int32)))), .val (.ref b2), .val (.int (((30 : Int32) * (((i1 &&& (2147483647 : Int32)) % (100 : Int32)) + (1 : Int32))) - ((30 : Int32) * (((i1 &&& (2147483647 : Int32)) % (100 : Int32)) + (1 : Int32))) * 3 / 10 + 1)), .val (.int ((((30 : Int32) * (((i1 &&& (2147483647 : Int32)) % (100 : Int32)) + (1 : Int32))) - (((30 : Int32) * (((i1 &&& (2147483647 : Int32)) % (100 : Int32)) + (1 : Int32))) - ((30 : Int32) * (((i1 &&& (2147483647 : Int32)) % (100 : Int32)) + (1 : Int32))) * 3 / 10 + 1)) + (1 : Int32)))] [(.int ((21 : Int32) * (((i1 &&& (2147483647 : Int32)) % (100 : Int32)) + (1 : Int32)))), (.int (((30 : Int32) * (((i1 &&& (2147483647 : Int32)) % (100 : Int32)) + (1 : Int32))) - ((30 : Int32) * (((i1 &&& (2147483647 : Int32)) % (100 : Int32)) + (1 : Int32))) * 3 / 10 + 1))])
  refine Ends.by (fun _ => XS.iconst X4.here hx rfl (hb hby at_59)) ?_
  show Ends p e below _ T4 (mkF m 60 #[.val (.int i0), .val (.int i1), .val (.int (f_1 (1 : Int32) (i0 &&& (2147483647 : Int32)))), .val (.int (((i1 &&& (2147483647 : Int32)) % (100 : Int32)) + (1 : Int32))), .val (.int ((30 : Int32) * (((i1 &&& (2147483647 : Int32)) % (100 : Int32)) + (1 : Int32)))), .val (.ref b2), .val (.int (((30 : Int32) * (((i1 &&& (2147483647 : Int32)) % (100 : Int32)) + (1 : Int32))) - ((30 : Int32) * (((i1 &&& (2147483647 : Int32)) % (100 : Int32)) + (1 : Int32))) * 3 / 10 + 1)), .val (.int ((((30 : Int32) * (((i1 &&& (2147483647 : Int32)) % (100 : Int32)) + (1 : Int32))) - (((30 : Int32) * (((i1 &&& (2147483647 : Int32)) % (100 : Int32)) + (1 : Int32))) - ((30 : Int32) * (((i1 &&& (2147483647 : Int32)) % (100 : Int32)) + (1 : Int32))) * 3 / 10 + 1)) + (1 : Int32)))] [(.int (1 : Int32)), (.int ((21 : Int32) * (((i1 &&& (2147483647 : Int32)) % (100 : Int32)) + (1 : Int32)))), (.int (((30 : Int32) * (((i1 &&& (2147483647 : Int32)) % (100 : Int32)) + (1 : Int32))) - ((30 : Int32) * (((i1 &&& (2147483647 : Int32)) % (100 : Int32)) + (1 : Int32))) * 3 / 10 + 1))])
  refine Ends.by (fun _ => XS.iadd X4.here hx rfl (hb hby at_60) rfl) ?_
  show Ends p e below _ T4 (mkF m 61 #[.val (.int i0), .val (.int i1), .val (.int (f_1 (1 : Int32) (i0 &&& (2147483647 : Int32)))), .val (.int (((i1 &&& (2147483647 : Int32)) % (100 : Int32)) + (1 : Int32))), .val (.int ((30 : Int32) * (((i1 &&& (2147483647 : Int32)) % (100 : Int32)) + (1 : Int32)))), .val (.ref b2), .val (.int (((30 : Int32) * (((i1 &&& (2147483647 : Int32)) % (100 : Int32)) + (1 : Int32))) - ((30 : Int32) * (((i1 &&& (2147483647 : Int32)) % (100 : Int32)) + (1 : Int32))) * 3 / 10 + 1)), .val (.int ((((30 : Int32) * (((i1 &&& (2147483647 : Int32)) % (100 : Int32)) + (1 : Int32))) - (((30 : Int32) * (((i1 &&& (2147483647 : Int32)) % (100 : Int32)) + (1 : Int32))) - ((30 : Int32) * (((i1 &&& (2147483647 : Int32)) % (100 : Int32)) + (1 : Int32))) * 3 / 10 + 1)) + (1 : Int32)))] [(.int (((21 : Int32) * (((i1 &&& (2147483647 : Int32)) % (100 : Int32)) + (1 : Int32))) + (1 : Int32))), (.int (((30 : Int32) * (((i1 &&& (2147483647 : Int32)) % (100 : Int32)) + (1 : Int32))) - ((30 : Int32) * (((i1 &&& (2147483647 : Int32)) % (100 : Int32)) + (1 : Int32))) * 3 / 10 + 1))])
  refine Ends.icmp X4 hx (hb hby at_61) 80 (by decide) (by decide) (fun q => ?_) (fun q => ?_)
  · have c61 : ¬ ((((30 : Int32) * (((i1 &&& (2147483647 : Int32)) % (100 : Int32)) + (1 : Int32))) - ((30 : Int32) * (((i1 &&& (2147483647 : Int32)) % (100 : Int32)) + (1 : Int32))) * 3 / 10 + 1) = (((21 : Int32) * (((i1 &&& (2147483647 : Int32)) % (100 : Int32)) + (1 : Int32))) + (1 : Int32))) := own_ne.1 q
    exact absurd (own_first _ (own_k _)) c61
  · have c61 : (((30 : Int32) * (((i1 &&& (2147483647 : Int32)) % (100 : Int32)) + (1 : Int32))) - ((30 : Int32) * (((i1 &&& (2147483647 : Int32)) % (100 : Int32)) + (1 : Int32))) * 3 / 10 + 1) = (((21 : Int32) * (((i1 &&& (2147483647 : Int32)) % (100 : Int32)) + (1 : Int32))) + (1 : Int32)) := own_ne.2 q
    show Ends p e below _ T4 (mkF m 64 #[.val (.int i0), .val (.int i1), .val (.int (f_1 (1 : Int32) (i0 &&& (2147483647 : Int32)))), .val (.int (((i1 &&& (2147483647 : Int32)) % (100 : Int32)) + (1 : Int32))), .val (.int ((30 : Int32) * (((i1 &&& (2147483647 : Int32)) % (100 : Int32)) + (1 : Int32)))), .val (.ref b2), .val (.int (((30 : Int32) * (((i1 &&& (2147483647 : Int32)) % (100 : Int32)) + (1 : Int32))) - ((30 : Int32) * (((i1 &&& (2147483647 : Int32)) % (100 : Int32)) + (1 : Int32))) * 3 / 10 + 1)), .val (.int ((((30 : Int32) * (((i1 &&& (2147483647 : Int32)) % (100 : Int32)) + (1 : Int32))) - (((30 : Int32) * (((i1 &&& (2147483647 : Int32)) % (100 : Int32)) + (1 : Int32))) - ((30 : Int32) * (((i1 &&& (2147483647 : Int32)) % (100 : Int32)) + (1 : Int32))) * 3 / 10 + 1)) + (1 : Int32)))] [])
    refine Ends.by (fun _ => XS.iload X4.here hx rfl (hb hby at_64) rfl) ?_
    show Ends p e below _ T4 (mkF m 66 #[.val (.int i0), .val (.int i1), .val (.int (f_1 (1 : Int32) (i0 &&& (2147483647 : Int32)))), .val (.int (((i1 &&& (2147483647 : Int32)) % (100 : Int32)) + (1 : Int32))), .val (.int ((30 : Int32) * (((i1 &&& (2147483647 : Int32)) % (100 : Int32)) + (1 : Int32)))), .val (.ref b2), .val (.int (((30 : Int32) * (((i1 &&& (2147483647 : Int32)) % (100 : Int32)) + (1 : Int32))) - ((30 : Int32) * (((i1 &&& (2147483647 : Int32)) % (100 : Int32)) + (1 : Int32))) * 3 / 10 + 1)), .val (.int ((((30 : Int32) * (((i1 &&& (2147483647 : Int32)) % (100 : Int32)) + (1 : Int32))) - (((30 : Int32) * (((i1 &&& (2147483647 : Int32)) % (100 : Int32)) + (1 : Int32))) - ((30 : Int32) * (((i1 &&& (2147483647 : Int32)) % (100 : Int32)) + (1 : Int32))) * 3 / 10 + 1)) + (1 : Int32)))] [(.int ((((30 : Int32) * (((i1 &&& (2147483647 : Int32)) % (100 : Int32)) + (1 : Int32))) - (((30 : Int32) * (((i1 &&& (2147483647 : Int32)) % (100 : Int32)) + (1 : Int32))) - ((30 : Int32) * (((i1 &&& (2147483647 : Int32)) % (100 : Int32)) + (1 : Int32))) * 3 / 10 + 1)) + (1 : Int32)))])
    refine Ends.by (fun _ => XS.bipush X4.here hx rfl (hb hby at_66)) ?_
    show Ends p e below _ T4 (mkF m 68 #[.val (.int i0), .val (.int i1), .val (.int (f_1 (1 : Int32) (i0 &&& (2147483647 : Int32)))), .val (.int (((i1 &&& (2147483647 : Int32)) % (100 : Int32)) + (1 : Int32))), .val (.int ((30 : Int32) * (((i1 &&& (2147483647 : Int32)) % (100 : Int32)) + (1 : Int32)))), .val (.ref b2), .val (.int (((30 : Int32) * (((i1 &&& (2147483647 : Int32)) % (100 : Int32)) + (1 : Int32))) - ((30 : Int32) * (((i1 &&& (2147483647 : Int32)) % (100 : Int32)) + (1 : Int32))) * 3 / 10 + 1)), .val (.int ((((30 : Int32) * (((i1 &&& (2147483647 : Int32)) % (100 : Int32)) + (1 : Int32))) - (((30 : Int32) * (((i1 &&& (2147483647 : Int32)) % (100 : Int32)) + (1 : Int32))) - ((30 : Int32) * (((i1 &&& (2147483647 : Int32)) % (100 : Int32)) + (1 : Int32))) * 3 / 10 + 1)) + (1 : Int32)))] [(.int (10 : Int32)), (.int ((((30 : Int32) * (((i1 &&& (2147483647 : Int32)) % (100 : Int32)) + (1 : Int32))) - (((30 : Int32) * (((i1 &&& (2147483647 : Int32)) % (100 : Int32)) + (1 : Int32))) - ((30 : Int32) * (((i1 &&& (2147483647 : Int32)) % (100 : Int32)) + (1 : Int32))) * 3 / 10 + 1)) + (1 : Int32)))])
    refine Ends.by (fun _ => XS.imul X4.here hx rfl (hb hby at_68) rfl) ?_
    show Ends p e below _ T4 (mkF m 69 #[.val (.int i0), .val (.int i1), .val (.int (f_1 (1 : Int32) (i0 &&& (2147483647 : Int32)))), .val (.int (((i1 &&& (2147483647 : Int32)) % (100 : Int32)) + (1 : Int32))), .val (.int ((30 : Int32) * (((i1 &&& (2147483647 : Int32)) % (100 : Int32)) + (1 : Int32)))), .val (.ref b2), .val (.int (((30 : Int32) * (((i1 &&& (2147483647 : Int32)) % (100 : Int32)) + (1 : Int32))) - ((30 : Int32) * (((i1 &&& (2147483647 : Int32)) % (100 : Int32)) + (1 : Int32))) * 3 / 10 + 1)), .val (.int ((((30 : Int32) * (((i1 &&& (2147483647 : Int32)) % (100 : Int32)) + (1 : Int32))) - (((30 : Int32) * (((i1 &&& (2147483647 : Int32)) % (100 : Int32)) + (1 : Int32))) - ((30 : Int32) * (((i1 &&& (2147483647 : Int32)) % (100 : Int32)) + (1 : Int32))) * 3 / 10 + 1)) + (1 : Int32)))] [(.int (((((30 : Int32) * (((i1 &&& (2147483647 : Int32)) % (100 : Int32)) + (1 : Int32))) - (((30 : Int32) * (((i1 &&& (2147483647 : Int32)) % (100 : Int32)) + (1 : Int32))) - ((30 : Int32) * (((i1 &&& (2147483647 : Int32)) % (100 : Int32)) + (1 : Int32))) * 3 / 10 + 1)) + (1 : Int32)) * (10 : Int32)))])
    refine Ends.by (fun _ => XS.iload X4.here hx rfl (hb hby at_69) rfl) ?_
    show Ends p e below _ T4 (mkF m 71 #[.val (.int i0), .val (.int i1), .val (.int (f_1 (1 : Int32) (i0 &&& (2147483647 : Int32)))), .val (.int (((i1 &&& (2147483647 : Int32)) % (100 : Int32)) + (1 : Int32))), .val (.int ((30 : Int32) * (((i1 &&& (2147483647 : Int32)) % (100 : Int32)) + (1 : Int32)))), .val (.ref b2), .val (.int (((30 : Int32) * (((i1 &&& (2147483647 : Int32)) % (100 : Int32)) + (1 : Int32))) - ((30 : Int32) * (((i1 &&& (2147483647 : Int32)) % (100 : Int32)) + (1 : Int32))) * 3 / 10 + 1)), .val (.int ((((30 : Int32) * (((i1 &&& (2147483647 : Int32)) % (100 : Int32)) + (1 : Int32))) - (((30 : Int32) * (((i1 &&& (2147483647 : Int32)) % (100 : Int32)) + (1 : Int32))) - ((30 : Int32) * (((i1 &&& (2147483647 : Int32)) % (100 : Int32)) + (1 : Int32))) * 3 / 10 + 1)) + (1 : Int32)))] [(.int ((30 : Int32) * (((i1 &&& (2147483647 : Int32)) % (100 : Int32)) + (1 : Int32)))), (.int (((((30 : Int32) * (((i1 &&& (2147483647 : Int32)) % (100 : Int32)) + (1 : Int32))) - (((30 : Int32) * (((i1 &&& (2147483647 : Int32)) % (100 : Int32)) + (1 : Int32))) - ((30 : Int32) * (((i1 &&& (2147483647 : Int32)) % (100 : Int32)) + (1 : Int32))) * 3 / 10 + 1)) + (1 : Int32)) * (10 : Int32)))])
    refine Ends.by (fun _ => XS.iconst X4.here hx rfl (hb hby at_71)) ?_
    show Ends p e below _ T4 (mkF m 72 #[.val (.int i0), .val (.int i1), .val (.int (f_1 (1 : Int32) (i0 &&& (2147483647 : Int32)))), .val (.int (((i1 &&& (2147483647 : Int32)) % (100 : Int32)) + (1 : Int32))), .val (.int ((30 : Int32) * (((i1 &&& (2147483647 : Int32)) % (100 : Int32)) + (1 : Int32)))), .val (.ref b2), .val (.int (((30 : Int32) * (((i1 &&& (2147483647 : Int32)) % (100 : Int32)) + (1 : Int32))) - ((30 : Int32) * (((i1 &&& (2147483647 : Int32)) % (100 : Int32)) + (1 : Int32))) * 3 / 10 + 1)), .val (.int ((((30 : Int32) * (((i1 &&& (2147483647 : Int32)) % (100 : Int32)) + (1 : Int32))) - (((30 : Int32) * (((i1 &&& (2147483647 : Int32)) % (100 : Int32)) + (1 : Int32))) - ((30 : Int32) * (((i1 &&& (2147483647 : Int32)) % (100 : Int32)) + (1 : Int32))) * 3 / 10 + 1)) + (1 : Int32)))] [(.int (3 : Int32)), (.int ((30 : Int32) * (((i1 &&& (2147483647 : Int32)) % (100 : Int32)) + (1 : Int32)))), (.int (((((30 : Int32) * (((i1 &&& (2147483647 : Int32)) % (100 : Int32)) + (1 : Int32))) - (((30 : Int32) * (((i1 &&& (2147483647 : Int32)) % (100 : Int32)) + (1 : Int32))) - ((30 : Int32) * (((i1 &&& (2147483647 : Int32)) % (100 : Int32)) + (1 : Int32))) * 3 / 10 + 1)) + (1 : Int32)) * (10 : Int32)))])
    refine Ends.by (fun _ => XS.imul X4.here hx rfl (hb hby at_72) rfl) ?_
    show Ends p e below _ T4 (mkF m 73 #[.val (.int i0), .val (.int i1), .val (.int (f_1 (1 : Int32) (i0 &&& (2147483647 : Int32)))), .val (.int (((i1 &&& (2147483647 : Int32)) % (100 : Int32)) + (1 : Int32))), .val (.int ((30 : Int32) * (((i1 &&& (2147483647 : Int32)) % (100 : Int32)) + (1 : Int32)))), .val (.ref b2), .val (.int (((30 : Int32) * (((i1 &&& (2147483647 : Int32)) % (100 : Int32)) + (1 : Int32))) - ((30 : Int32) * (((i1 &&& (2147483647 : Int32)) % (100 : Int32)) + (1 : Int32))) * 3 / 10 + 1)), .val (.int ((((30 : Int32) * (((i1 &&& (2147483647 : Int32)) % (100 : Int32)) + (1 : Int32))) - (((30 : Int32) * (((i1 &&& (2147483647 : Int32)) % (100 : Int32)) + (1 : Int32))) - ((30 : Int32) * (((i1 &&& (2147483647 : Int32)) % (100 : Int32)) + (1 : Int32))) * 3 / 10 + 1)) + (1 : Int32)))] [(.int (((30 : Int32) * (((i1 &&& (2147483647 : Int32)) % (100 : Int32)) + (1 : Int32))) * (3 : Int32))), (.int (((((30 : Int32) * (((i1 &&& (2147483647 : Int32)) % (100 : Int32)) + (1 : Int32))) - (((30 : Int32) * (((i1 &&& (2147483647 : Int32)) % (100 : Int32)) + (1 : Int32))) - ((30 : Int32) * (((i1 &&& (2147483647 : Int32)) % (100 : Int32)) + (1 : Int32))) * 3 / 10 + 1)) + (1 : Int32)) * (10 : Int32)))])
    refine Ends.icmp X4 hx (hb hby at_73) 80 (by decide) (by decide) (fun q => ?_) (fun q => ?_)
    · have c73 : ¬ ((((((30 : Int32) * (((i1 &&& (2147483647 : Int32)) % (100 : Int32)) + (1 : Int32))) - (((30 : Int32) * (((i1 &&& (2147483647 : Int32)) % (100 : Int32)) + (1 : Int32))) - ((30 : Int32) * (((i1 &&& (2147483647 : Int32)) % (100 : Int32)) + (1 : Int32))) * 3 / 10 + 1)) + (1 : Int32)) * (10 : Int32)) = (((30 : Int32) * (((i1 &&& (2147483647 : Int32)) % (100 : Int32)) + (1 : Int32))) * (3 : Int32))) := own_ne.1 q
      exact absurd (own_und _ (own_k _)) c73
    · have c73 : (((((30 : Int32) * (((i1 &&& (2147483647 : Int32)) % (100 : Int32)) + (1 : Int32))) - (((30 : Int32) * (((i1 &&& (2147483647 : Int32)) % (100 : Int32)) + (1 : Int32))) - ((30 : Int32) * (((i1 &&& (2147483647 : Int32)) % (100 : Int32)) + (1 : Int32))) * 3 / 10 + 1)) + (1 : Int32)) * (10 : Int32)) = (((30 : Int32) * (((i1 &&& (2147483647 : Int32)) % (100 : Int32)) + (1 : Int32))) * (3 : Int32)) := own_ne.2 q
      show Ends p e below _ T4 (mkF m 76 #[.val (.int i0), .val (.int i1), .val (.int (f_1 (1 : Int32) (i0 &&& (2147483647 : Int32)))), .val (.int (((i1 &&& (2147483647 : Int32)) % (100 : Int32)) + (1 : Int32))), .val (.int ((30 : Int32) * (((i1 &&& (2147483647 : Int32)) % (100 : Int32)) + (1 : Int32)))), .val (.ref b2), .val (.int (((30 : Int32) * (((i1 &&& (2147483647 : Int32)) % (100 : Int32)) + (1 : Int32))) - ((30 : Int32) * (((i1 &&& (2147483647 : Int32)) % (100 : Int32)) + (1 : Int32))) * 3 / 10 + 1)), .val (.int ((((30 : Int32) * (((i1 &&& (2147483647 : Int32)) % (100 : Int32)) + (1 : Int32))) - (((30 : Int32) * (((i1 &&& (2147483647 : Int32)) % (100 : Int32)) + (1 : Int32))) - ((30 : Int32) * (((i1 &&& (2147483647 : Int32)) % (100 : Int32)) + (1 : Int32))) * 3 / 10 + 1)) + (1 : Int32)))] [])
      refine Ends.by (fun _ => XS.iconst X4.here hx rfl (hb hby at_76)) ?_
      show Ends p e below _ T4 (mkF m 77 #[.val (.int i0), .val (.int i1), .val (.int (f_1 (1 : Int32) (i0 &&& (2147483647 : Int32)))), .val (.int (((i1 &&& (2147483647 : Int32)) % (100 : Int32)) + (1 : Int32))), .val (.int ((30 : Int32) * (((i1 &&& (2147483647 : Int32)) % (100 : Int32)) + (1 : Int32)))), .val (.ref b2), .val (.int (((30 : Int32) * (((i1 &&& (2147483647 : Int32)) % (100 : Int32)) + (1 : Int32))) - ((30 : Int32) * (((i1 &&& (2147483647 : Int32)) % (100 : Int32)) + (1 : Int32))) * 3 / 10 + 1)), .val (.int ((((30 : Int32) * (((i1 &&& (2147483647 : Int32)) % (100 : Int32)) + (1 : Int32))) - (((30 : Int32) * (((i1 &&& (2147483647 : Int32)) % (100 : Int32)) + (1 : Int32))) - ((30 : Int32) * (((i1 &&& (2147483647 : Int32)) % (100 : Int32)) + (1 : Int32))) * 3 / 10 + 1)) + (1 : Int32)))] [(.int (1 : Int32))])
      refine Ends.by (fun _ => XS.goto X4.here hx rfl (pc0 := 77) (pc' := 81) rfl (hb hby at_77) (by decide) (by decide)) ?_
      show Ends p e below _ T4 (mkF m 81 #[.val (.int i0), .val (.int i1), .val (.int (f_1 (1 : Int32) (i0 &&& (2147483647 : Int32)))), .val (.int (((i1 &&& (2147483647 : Int32)) % (100 : Int32)) + (1 : Int32))), .val (.int ((30 : Int32) * (((i1 &&& (2147483647 : Int32)) % (100 : Int32)) + (1 : Int32)))), .val (.ref b2), .val (.int (((30 : Int32) * (((i1 &&& (2147483647 : Int32)) % (100 : Int32)) + (1 : Int32))) - ((30 : Int32) * (((i1 &&& (2147483647 : Int32)) % (100 : Int32)) + (1 : Int32))) * 3 / 10 + 1)), .val (.int ((((30 : Int32) * (((i1 &&& (2147483647 : Int32)) % (100 : Int32)) + (1 : Int32))) - (((30 : Int32) * (((i1 &&& (2147483647 : Int32)) % (100 : Int32)) + (1 : Int32))) - ((30 : Int32) * (((i1 &&& (2147483647 : Int32)) % (100 : Int32)) + (1 : Int32))) * 3 / 10 + 1)) + (1 : Int32)))] [(.int (1 : Int32))])
      exact Ends.retZ X4 hx hlk hret (hb hby at_81) (by first | decide | (simp; done)) (by decide) (by decide) (⟨rfl, N3⟩)
set_option maxRecDepth 65536 in
set_option maxHeartbeats 40000000 in
theorem comes_1 {Post : Tables → Env → Array Value → State → Outcome → State → Prop} (hpost : ∀ tb e args s v u, (limb_1_1.after args s (.returned v) u = true ∧ limb_1_2.after args s (.returned v) u = true) → FrameEnd s (.returned v) u (Jvm.fieldLocs frame_1_writes args s ++ Jvm.arrayLocs frame_1_arrays args s ++ Jvm.staticLocs frame_1_statics s) 16 128 → Post tb e args s (.returned v) u) :
    ArmFor flags0 classFile x code maxLocals ret World_1 tables_1 room_1 Calls_1 rest_1 Pre_1 Post := by
  intro l hfl _ _ p e ha hc hk s m args below hf hA hF happ hP
  obtain ⟨hcalls, hrest, hpre⟩ := hP
  obtain ⟨-, -, -, hnamed, -, -, -, hat⟩ := (Spec.applies_iff hf).mp happ
  obtain ⟨hg, hn⟩ := and_e (Cond.before_iff.mp (show (Jvm.Cond.and given_1 narrow_1).before args s = true from hpre))
  obtain ⟨hcount, g0⟩ := and_e hg
  obtain ⟨k0, g1⟩ := and_e g0
  obtain ⟨w0, w1, rfl⟩ : ∃ w0 w1 : Value, args = #[w0, w1] := by
    have hs : args.size = 2 := by simpa [Cond.value, given_1] using hcount
    obtain ⟨L⟩ := args
    match L, hs with
    | [w0, w1], _ => exact ⟨w0, w1, rfl⟩
  have hw := fun d (hd : d ∈ tables_1) => atoms_spec (ws := Jvm.Cond.code x code maxLocals ret :: tables_1) hat d (List.mem_cons_of_mem _ hd)
  obtain ⟨i0, ei0⟩ := is_v k0
  obtain rfl : w0 = (.int i0) := Option.some.inj ei0
  obtain ⟨i1, ei1⟩ := is_v g1
  obtain rfl : w1 = (.int i1) := Option.some.inj ei1
  obtain ⟨n, o, h1, h2, h3, _, L, rfl, ⟨rfl, N⟩, hq⟩ := con_0 l s _ hw i0 i1 s.heap s.heap.size (Nat.le_refl _) tables_1 p e ha hc hk s m _ below hf ((Spec.applies_iff_loose hf).mp happ).1 ⟨rfl, State.Warmed39.refl s, rfl⟩ trivial
  refine ⟨n, _, h1, h2, h3, hpost _ _ _ _ _ _ ⟨Cond.after_iff.mpr rfl, Cond.after_iff.mpr (eq_i res_at (Term.int_eval (1)) rfl)⟩ ⟨hq.1, hq.2.1, (hq.2.2.sift fun y hy => Or.inr (N y hy)).mono (by decide) (by decide)⟩⟩
theorem main_1_1 : Claimed_1_1 := comes_1 fun _ _ _ _ _ _ h hF => ⟨h.1, hF⟩
theorem main_1_2 : Claimed_1_2 := comes_1 fun _ _ _ _ _ _ h hF => ⟨h.2, hF⟩
end Jvm.Pilot.@@N@@
namespace Jvm.Pilot.@@N@@
open Jvm Jvm.ClassFile Sem Op Lib Jvm.Free Jvm.Stand Jvm.Pilot.@@N@@.Jvm.D
/-! MADE BY PROGRAM (witnessworld.py) out of the Statement's table words and the real class files: 11 classes; the members and pool entries that the words name. The judged class is class 1, her method 1. -/
namespace start1
open Jvm.ClassFile
def u (s : String) : CpInfo := .utf8 (stringToUtf16 s)
/-- a pool by its gaps: so many unusable entries, then the entry; so many at the end -/
def gap : Nat → List CpInfo → List CpInfo
  | 0, r => r
  | n + 1, r => .unusable :: gap n r
def poolList (es : List (Nat × CpInfo)) (last : Nat) : List CpInfo := es.foldr (fun e r => gap e.1 (e.2 :: r)) (gap last [])
def pool (es : List (Nat × CpInfo)) (last : Nat) : Array CpInfo := ⟨poolList es last⟩
def fileOf (pool : Array CpInfo) (this : Nat) (attrs : Array Attribute := #[]) (ms : Array MethodInfo := #[]) (fl : Nat := 33) (sup : Nat := 0) (ifs : Array Nat := #[]) (fds : Array FieldInfo := #[]) : ClassFile where
  minorVersion := 0
  majorVersion := 65
  constantPool := pool
  accessFlags := fl
  thisClass := this
  superClass := sup
  interfaces := ifs
  fields := fds
  methods := ms
  attributes := attrs
def plain (name : String) (sup : Option ClassId) : Class where
  name := name
  kind := .ordinary
  loader := none
  accessFlags := 33
  super := sup
  interfaces := #[]
  cf := none
  fields := #[]
  methods := #[]
  instanceTypes := #[]
  staticTypes := #[]
  resolved := #[]
  callSites := []
  init := .initialized
  statics := none
  mirror := none

def pool0 : Array CpInfo := pool [(5, u "<init>"), (0, u "()V"), (1, .class_ 10), (1, u "java/lang/Object")] 113

def k0c0 : Code := { maxStack := 0, maxLocals := 1, code := object_method_1_code, exceptionTable := #[], attributes := #[] }
def k0m0 : Method := { name := "<init>", desc := "()V", sig := { parameters := [], returnType := none }, accessFlags := 1, code := some k0c0 }
/-- java/lang/Object -/
def k0 : Class := { plain "java/lang/Object" none with
  accessFlags := 33
  interfaces := #[]
  cf := some (fileOf pool0 8 #[] #[{ accessFlags := 1, nameIndex := 5, descriptorIndex := 6, attributes := #[] }] 33 0 #[] #[])
  fields := #[]
  methods := #[k0m0]
  instanceTypes := #[]
  staticTypes := #[]
  resolved := Array.replicate 124 none
  statics := none }

def pool1 : Array CpInfo := pool [(2, .class_ 4), (1, u "java/lang/Object"), (0, u "<init>"), (0, u "()V"), (0, .integer 2147483647), (0, .methodref 9 10), (0, .class_ 11), (0, .nameAndType 12 13), (0, u "java/lang/Math"), (0, u "max"), (0, u "(II)I"), (0, .class_ 15), (0, u "com/example/palimpsest/palimpsest/workload/tpcc/Population$Scale"), (0, .methodref 14 17), (0, .nameAndType 5 18), (0, u "(II)V"), (0, .methodref 14 20), (0, .nameAndType 21 22), (0, u "firstNewOrder"), (0, u "()I"), (0, .class_ 24), (0, u "com/example/palimpsest/palimpsest/workload/tpcc/ScaleFirstNewOrderPinLaw"), (2, u "law"), (0, u "(II)Z")] 7

def k1m0 : Method := { name := "<init>", desc := "()V", sig := { parameters := [], returnType := none }, accessFlags := 1, code := none }
def k1c1 : Code := { maxStack := 4, maxLocals := 8, code := code, exceptionTable := #[], attributes := #[] }
def k1m1 : Method := { name := "law", desc := "(II)Z", sig := { parameters := [.int, .int], returnType := some .boolean }, accessFlags := 9, code := some k1c1 }
/-- com/example/palimpsest/palimpsest/workload/tpcc/ScaleFirstNewOrderPinLaw -/
def k1 : Class := { plain "com/example/palimpsest/palimpsest/workload/tpcc/ScaleFirstNewOrderPinLaw" (some 0) with
  accessFlags := 49
  interfaces := #[]
  cf := some (fileOf pool1 23 #[] #[{ accessFlags := 1, nameIndex := 5, descriptorIndex := 6, attributes := #[] }, { accessFlags := 9, nameIndex := 27, descriptorIndex := 28, attributes := #[] }] 49 2 #[] #[])
  fields := #[]
  methods := #[k1m0, k1m1]
  instanceTypes := #[]
  staticTypes := #[]
  resolved := Array.replicate 36 none
  statics := none }

def pool2 : Array CpInfo := pool [(1, .class_ 2), (0, u "java/lang/Math"), (1, .class_ 6), (1, u "java/lang/Object"), (0, u "<init>"), (0, u "()V"), (89, .class_ 100), (1, u "java/lang/Math$RandomNumberGeneratorHolder"), (71, u "negativeZeroFloatBits"), (0, u "J"), (2, u "negativeZeroDoubleBits"), (21, u "max"), (46, u "$assertionsDisabled"), (0, u "Z"), (88, u "(II)I"), (2, u "twoToTheDoubleScaleDown"), (0, u "D"), (4, u "twoToTheDoubleScaleUp"), (9, u "E"), (3, u "PI"), (2, u "TAU"), (2, u "DEGREES_TO_RADIANS"), (0, u "RADIANS_TO_DEGREES")] 94

def k2m0 : Method := { name := "<init>", desc := "()V", sig := { parameters := [], returnType := none }, accessFlags := 2, code := none }
def k2c1 : Code := { maxStack := 2, maxLocals := 2, code := jdk_29_method_65_code, exceptionTable := #[], attributes := #[] }
def k2m1 : Method := { name := "max", desc := "(II)I", sig := { parameters := [.int, .int], returnType := some .int }, accessFlags := 9, code := some k2c1 }
/-- java/lang/Math -/
def k2 : Class := { plain "java/lang/Math" (some 0) with
  accessFlags := 49
  interfaces := #[]
  cf := some (fileOf pool2 1 #[.nestMembers #[98]] #[{ accessFlags := 2, nameIndex := 7, descriptorIndex := 8, attributes := #[] }, { accessFlags := 9, nameIndex := 198, descriptorIndex := 335, attributes := #[] }] 49 4 #[] #[{ accessFlags := 25, nameIndex := 354, descriptorIndex := 339, attributes := #[] }, { accessFlags := 25, nameIndex := 358, descriptorIndex := 339, attributes := #[] }, { accessFlags := 25, nameIndex := 361, descriptorIndex := 339, attributes := #[] }, { accessFlags := 26, nameIndex := 364, descriptorIndex := 339, attributes := #[] }, { accessFlags := 26, nameIndex := 365, descriptorIndex := 339, attributes := #[] }, { accessFlags := 26, nameIndex := 172, descriptorIndex := 173, attributes := #[] }, { accessFlags := 26, nameIndex := 176, descriptorIndex := 173, attributes := #[] }, { accessFlags := 8, nameIndex := 344, descriptorIndex := 339, attributes := #[] }, { accessFlags := 8, nameIndex := 338, descriptorIndex := 339, attributes := #[] }, { accessFlags := 4120, nameIndex := 245, descriptorIndex := 246, attributes := #[] }])
  fields := #[{ name := "E", type := .double, accessFlags := 25, slot := 0, constantValue := 0 }, { name := "PI", type := .double, accessFlags := 25, slot := 1, constantValue := 0 }, { name := "TAU", type := .double, accessFlags := 25, slot := 2, constantValue := 0 }, { name := "DEGREES_TO_RADIANS", type := .double, accessFlags := 26, slot := 3, constantValue := 0 }, { name := "RADIANS_TO_DEGREES", type := .double, accessFlags := 26, slot := 4, constantValue := 0 }, { name := "negativeZeroFloatBits", type := .long, accessFlags := 26, slot := 5, constantValue := 0 }, { name := "negativeZeroDoubleBits", type := .long, accessFlags := 26, slot := 6, constantValue := 0 }, { name := "twoToTheDoubleScaleUp", type := .double, accessFlags := 8, slot := 7, constantValue := 0 }, { name := "twoToTheDoubleScaleDown", type := .double, accessFlags := 8, slot := 8, constantValue := 0 }, { name := "$assertionsDisabled", type := .boolean, accessFlags := 4120, slot := 9, constantValue := 0 }]
  methods := #[k2m0, k2m1]
  instanceTypes := #[]
  staticTypes := #[.double, .double, .double, .double, .double, .long, .long, .double, .double, .boolean]
  resolved := Array.replicate 460 none
  statics := none }

def pool3 : Array CpInfo := pool [(1, .methodref 2 3), (0, .class_ 4), (0, .nameAndType 5 6), (0, u "java/lang/Object"), (0, u "<init>"), (0, u "()V"), (0, .class_ 8), (0, u "java/lang/Record")] 13

def k3c0 : Code := { maxStack := 1, maxLocals := 1, code := jdk_30_method_1_code, exceptionTable := #[], attributes := #[] }
def k3m0 : Method := { name := "<init>", desc := "()V", sig := { parameters := [], returnType := none }, accessFlags := 4, code := some k3c0 }
/-- java/lang/Record -/
def k3 : Class := { plain "java/lang/Record" (some 0) with
  accessFlags := 1057
  interfaces := #[]
  cf := some (fileOf pool3 7 #[] #[{ accessFlags := 4, nameIndex := 5, descriptorIndex := 6, attributes := #[] }] 1057 2 #[] #[])
  fields := #[]
  methods := #[k3m0]
  instanceTypes := #[]
  staticTypes := #[]
  resolved := Array.replicate 22 none
  statics := none }

def pool4 : Array CpInfo := pool [(1, .methodref 2 3), (0, .class_ 4), (0, .nameAndType 5 6), (0, u "java/lang/Record"), (0, u "<init>"), (0, u "()V"), (9, .fieldref 17 18), (0, .class_ 19), (0, .nameAndType 20 21), (0, u "com/example/palimpsest/palimpsest/workload/tpcc/Population$Scale"), (0, u "items"), (0, u "I"), (0, .fieldref 17 23), (0, .nameAndType 24 21), (0, u "customers"), (3, u "()I"), (15, u "(II)V"), (2, u "TPCC"), (0, u "Lcom/example/palimpsest/palimpsest/workload/tpcc/Population$Scale;"), (4, u "firstNewOrder"), (7, .class_ 62), (0, u "com/example/palimpsest/palimpsest/workload/tpcc/Population")] 28

def k4c0 : Code := { maxStack := 4, maxLocals := 3, code := prog_32_method_1_code, exceptionTable := #[], attributes := #[] }
def k4m0 : Method := { name := "<init>", desc := "(II)V", sig := { parameters := [.int, .int], returnType := none }, accessFlags := 1, code := some k4c0 }
def k4c1 : Code := { maxStack := 3, maxLocals := 1, code := prog_32_method_2_code, exceptionTable := #[], attributes := #[] }
def k4m1 : Method := { name := "firstNewOrder", desc := "()I", sig := { parameters := [], returnType := some .int }, accessFlags := 0, code := some k4c1 }
/-- com/example/palimpsest/palimpsest/workload/tpcc/Population$Scale -/
def k4 : Class := { plain "com/example/palimpsest/palimpsest/workload/tpcc/Population$Scale" (some 3) with
  accessFlags := 49
  interfaces := #[]
  cf := some (fileOf pool4 17 #[.nestHost 61] #[{ accessFlags := 1, nameIndex := 5, descriptorIndex := 44, attributes := #[] }, { accessFlags := 0, nameIndex := 53, descriptorIndex := 28, attributes := #[] }] 49 2 #[] #[{ accessFlags := 18, nameIndex := 20, descriptorIndex := 21, attributes := #[] }, { accessFlags := 18, nameIndex := 24, descriptorIndex := 21, attributes := #[] }, { accessFlags := 24, nameIndex := 47, descriptorIndex := 48, attributes := #[] }])
  fields := #[{ name := "items", type := .int, accessFlags := 18, slot := 0, constantValue := 0 }, { name := "customers", type := .int, accessFlags := 18, slot := 1, constantValue := 0 }, { name := "TPCC", type := (.object "com/example/palimpsest/palimpsest/workload/tpcc/Population$Scale"), accessFlags := 24, slot := 0, constantValue := 0 }]
  methods := #[k4m0, k4m1]
  instanceTypes := #[.int, .int]
  staticTypes := #[(.object "com/example/palimpsest/palimpsest/workload/tpcc/Population$Scale")]
  resolved := Array.replicate 91 none
  statics := none }

def pool5 : Array CpInfo := pool [(1, u "java/lang/Cloneable"), (0, .class_ 1), (0, u "java/lang/Object"), (0, .class_ 3)] 3

/-- java/lang/Cloneable -/
def k5 : Class := { plain "java/lang/Cloneable" (some 0) with
  accessFlags := 1537
  interfaces := #[]
  cf := some (fileOf pool5 2 #[] #[] 1537 4 #[] #[])
  fields := #[]
  methods := #[]
  instanceTypes := #[]
  staticTypes := #[]
  resolved := Array.replicate 8 none
  statics := none }

def pool6 : Array CpInfo := pool [(1, u "java/io/Serializable"), (0, .class_ 1), (0, u "java/lang/Object"), (0, .class_ 3)] 3

/-- java/io/Serializable -/
def k6 : Class := { plain "java/io/Serializable" (some 0) with
  accessFlags := 1537
  interfaces := #[]
  cf := some (fileOf pool6 2 #[] #[] 1537 4 #[] #[])
  fields := #[]
  methods := #[]
  instanceTypes := #[]
  staticTypes := #[]
  resolved := Array.replicate 8 none
  statics := none }

/-- the primitive byte -/
def k7 : Class := { plain "byte" none with kind := .primitive 'B', accessFlags := 0x411 }
/-- [B -/
def k8 : Class := { plain "[B" (some 0) with kind := .array 7 .byte, interfaces := #[5, 6], accessFlags := 1041 }

/-- the primitive int -/
def k9 : Class := { plain "int" none with kind := .primitive 'I', accessFlags := 0x411 }
/-- [I -/
def k10 : Class := { plain "[I" (some 0) with kind := .array 9 .int, interfaces := #[5, 6], accessFlags := 1041 }

def heap : Heap := #[]
def classes : Array Class := #[k0, k1, k2, k3, k4, k5, k6, k7, k8, k9, k10]
def interned : List (Array UInt16 × Addr) := []
def slotsUsed : Nat := 0
def theMethod : MethodId := ⟨1, 1⟩
def args0 : Array Value := #[.int 5, .int 7]
def aboutOver (below : List Frame) : State where
  vm := { classes := classes, interned := interned.toArray }
  heap := heap
  slotsUsed := slotsUsed
  threads := #[{ frames := .invoking theMethod args0 :: below }]
def below0 : List Frame := [.native { method := ⟨0, 0⟩, args := #[] }]
def about1 : State := aboutOver below0
def p0 : Program := .bare "" "" ""
def e0 : Env := launch0.env 0 0 0
theorem w_frames : about1.frames = Frame.invoking theMethod args0 :: below0 := rfl
set_option maxRecDepth 65536 in
theorem w_args : argsFit about1.vm theMethod args0 = true := by decide +kernel
set_option maxRecDepth 65536 in
theorem w_heap : heapFits about1 = true := by decide +kernel
set_option maxRecDepth 65536 in
theorem w_runnable : about1.curStatus? = some .runnable := by decide +kernel
set_option maxRecDepth 65536 in
theorem w_alone : about1.alone = true := by decide +kernel
set_option maxRecDepth 65536 in
theorem w_named : about1.methodNamed? x = some theMethod := by decide +kernel
set_option maxRecDepth 65536 in
theorem w_hears : about1.hears theMethod below0 = true := by decide +kernel
set_option maxRecDepth 65536 in
theorem w_ripe : about1.ripe theMethod args0 below0 = true := by decide +kernel
theorem w_running : about1.status = .running := rfl
set_option maxRecDepth 65536 in
theorem w_room : about1.hasRoom e0.platform room_1 = true :=
  launch0.hasRoom_least _ room_1 (by decide +kernel) (by decide +kernel) (by decide +kernel) (by decide +kernel) (by decide +kernel) (by decide +kernel)
theorem allAtoms_all (ts : List Jvm.Cond) (a : Array Jvm.Value) (st : Jvm.State) : (allAtoms ts).before a st = ts.all (fun c => c.before a st) := by
  induction ts with
  | nil => rfl
  | cons c t ih =>
    show (Jvm.Cond.and c (allAtoms t)).before a st = _
    rw [Jvm.Cond.before_and, ih, List.all_cons]
def words1 : List Jvm.Cond := Jvm.Cond.code x code maxLocals ret :: tables_1
/-- a 'code' word, met by the world's own term for the bytes: nothing is compared byte by byte -/
theorem code_word {y : MethodName} {bytes : ByteArray} {mx : Nat} {rt : Option FieldType} {a : Array Value} {s : State} {m : MethodId} {meth : Method} {c : Code} (h1 : s.methodNamed? y = some m) (h2 : s.vm.method? m = some meth) (h3 : meth.code = some c) (h4 : c.code = bytes)
    (h5 : (c.maxLocals == mx && c.exceptionTable.isEmpty && decide (c.maxStack ≤ mostOperands) && decide (meth.sig.returnType = rt) && !meth.locks && decide (parseMethodDescriptor y.desc = some meth.sig)) = true) : (Jvm.Cond.code y bytes mx rt).before a s = true := by
  simp only [Bool.and_eq_true, beq_iff_eq, Bool.not_eq_true', decide_eq_true_eq] at h5
  obtain ⟨⟨⟨⟨⟨g1, g2⟩, g3⟩, g4⟩, g5⟩, g6⟩ := h5
  simp [Cond.before, Cond.holds, Cond.value, h1, h2, h3, h4, g1, g2, g3, g4, g5, g6]
def isCode : Jvm.Cond → Bool
  | .code _ _ _ _ => true
  | _ => false
theorem all_split {L : List Jvm.Cond} {P : Jvm.Cond → Bool} (h1 : L.all (fun c => isCode c || P c) = true) (h2 : ∀ c ∈ L.filter isCode, P c = true) : L.all P = true := by
  refine List.all_eq_true.mpr fun c hc => ?_
  have h := List.all_eq_true.mp h1 c hc
  rcases Bool.eq_false_or_eq_true (isCode c) with hi | hi
  · exact h2 c (List.mem_filter.mpr ⟨hc, hi⟩)
  · simpa [hi] using h
set_option maxRecDepth 65536 in
theorem w_c0 : (Jvm.Cond.code x code maxLocals ret).before args0 about1 = true := code_word (m := ⟨1, 1⟩) (meth := k1m1) (c := k1c1) (by decide +kernel) rfl rfl rfl (by decide +kernel)
set_option maxRecDepth 65536 in
theorem w_c1 : (Jvm.Cond.code ({ cls := "java/lang/Math", name := "max", desc := "(II)I" } : Jvm.MethodName) jdk_29_method_65_code (2 : Nat) (Option.some Jvm.ClassFile.FieldType.int)).before args0 about1 = true := code_word (m := ⟨2, 1⟩) (meth := k2m1) (c := k2c1) (by decide +kernel) rfl rfl rfl (by decide +kernel)
set_option maxRecDepth 65536 in
theorem w_c2 : (Jvm.Cond.code ({ cls := "com/example/palimpsest/palimpsest/workload/tpcc/Population$Scale", name := "<init>", desc := "(II)V" } : Jvm.MethodName) prog_32_method_1_code (3 : Nat) (Option.none : Option Jvm.ClassFile.FieldType)).before args0 about1 = true := code_word (m := ⟨4, 0⟩) (meth := k4m0) (c := k4c0) (by decide +kernel) rfl rfl rfl (by decide +kernel)
set_option maxRecDepth 65536 in
theorem w_c3 : (Jvm.Cond.code ({ cls := "java/lang/Record", name := "<init>", desc := "()V" } : Jvm.MethodName) jdk_30_method_1_code (1 : Nat) (Option.none : Option Jvm.ClassFile.FieldType)).before args0 about1 = true := code_word (m := ⟨3, 0⟩) (meth := k3m0) (c := k3c0) (by decide +kernel) rfl rfl rfl (by decide +kernel)
set_option maxRecDepth 65536 in
theorem w_c4 : (Jvm.Cond.code ({ cls := "java/lang/Object", name := "<init>", desc := "()V" } : Jvm.MethodName) object_method_1_code (1 : Nat) (Option.none : Option Jvm.ClassFile.FieldType)).before args0 about1 = true := code_word (m := ⟨0, 0⟩) (meth := k0m0) (c := k0c0) (by decide +kernel) rfl rfl rfl (by decide +kernel)
set_option maxRecDepth 65536 in
theorem w_c5 : (Jvm.Cond.code ({ cls := "com/example/palimpsest/palimpsest/workload/tpcc/Population$Scale", name := "firstNewOrder", desc := "()I" } : Jvm.MethodName) prog_32_method_2_code (1 : Nat) (Option.some Jvm.ClassFile.FieldType.int)).before args0 about1 = true := code_word (m := ⟨4, 1⟩) (meth := k4m1) (c := k4c1) (by decide +kernel) rfl rfl rfl (by decide +kernel)
def codes1 : List Jvm.Cond := [Jvm.Cond.code x code maxLocals ret, Jvm.Cond.code ({ cls := "java/lang/Math", name := "max", desc := "(II)I" } : Jvm.MethodName) jdk_29_method_65_code (2 : Nat) (Option.some Jvm.ClassFile.FieldType.int), Jvm.Cond.code ({ cls := "com/example/palimpsest/palimpsest/workload/tpcc/Population$Scale", name := "<init>", desc := "(II)V" } : Jvm.MethodName) prog_32_method_1_code (3 : Nat) (Option.none : Option Jvm.ClassFile.FieldType), Jvm.Cond.code ({ cls := "java/lang/Record", name := "<init>", desc := "()V" } : Jvm.MethodName) jdk_30_method_1_code (1 : Nat) (Option.none : Option Jvm.ClassFile.FieldType), Jvm.Cond.code ({ cls := "java/lang/Object", name := "<init>", desc := "()V" } : Jvm.MethodName) object_method_1_code (1 : Nat) (Option.none : Option Jvm.ClassFile.FieldType), Jvm.Cond.code ({ cls := "com/example/palimpsest/palimpsest/workload/tpcc/Population$Scale", name := "firstNewOrder", desc := "()I" } : Jvm.MethodName) prog_32_method_2_code (1 : Nat) (Option.some Jvm.ClassFile.FieldType.int)]
set_option maxRecDepth 65536 in
theorem codes_eq : words1.filter isCode = codes1 := rfl
theorem w_codes : ∀ c ∈ words1.filter isCode, c.before args0 about1 = true := by
  rw [codes_eq]
  intro c hc
  simp only [codes1, List.mem_cons, List.not_mem_nil, or_false] at hc
  rcases hc with rfl | rfl | rfl | rfl | rfl | rfl
  · exact w_c0
  · exact w_c1
  · exact w_c2
  · exact w_c3
  · exact w_c4
  · exact w_c5
set_option maxRecDepth 65536 in
theorem w_t1 : (words1.take 24).all (fun c => isCode c || c.before args0 about1) = true := by decide +kernel
set_option maxRecDepth 65536 in
theorem w_t2 : (words1.drop 24).all (fun c => isCode c || c.before args0 about1) = true := by decide +kernel
theorem w_tables : (allAtoms (Jvm.Cond.code x code maxLocals ret :: tables_1)).before args0 about1 = true := by
  rw [allAtoms_all]
  show words1.all (fun c => c.before args0 about1) = true
  refine all_split ?_ w_codes
  rw [← List.take_append_drop 24 words1, List.all_append, w_t1, w_t2]
  rfl
set_option maxRecDepth 65536 in
theorem w_case : (Jvm.Cond.and given_1 narrow_1).before args0 about1 = true := by decide +kernel
theorem w_applies : (headSpec (Jvm.Cond.code x code maxLocals ret :: tables_1) room_1).applies x e0.platform about1 = true :=
  (Spec.applies_iff w_frames).mpr ⟨w_running, w_runnable, w_alone, w_named, w_hears, w_ripe, w_room, w_tables⟩
theorem atStart : AtStart classFile x code maxLocals ret World_1 tables_1 room_1 Calls_1 rest_1 Pre_1 launch0 p0 e0 about1 theMethod args0 below0 :=
  ⟨lists_1, trivial, launch0.admits_env _ _ _, launch0.least_env, fairChoices_fair.cas, fairChoices_fair.clock, w_frames, w_args, w_heap, w_applies, trivial, trivial, w_case⟩
end start1
theorem witness_1 : WitnessClaimed_1 := ⟨start1.p0, start1.e0, start1.about1, start1.theMethod, start1.args0, start1.below0, start1.atStart⟩
end Jvm.Pilot.@@N@@
