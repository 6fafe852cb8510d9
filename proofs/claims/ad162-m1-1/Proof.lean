import JvmDerived
import JvmDerived.Pilot.@@N@@Statement
import JvmDerived.Pilot.@@N@@Code
set_option linter.unusedVariables false
set_option linter.unusedSimpArgs false
namespace Jvm.Pilot.@@N@@
open Jvm Jvm.ClassFile Sem Op Lib Jvm.Free Jvm.Stand Jvm.LawKit Jvm.RoadKit Bundle Jvm.Pilot.@@N@@.Jvm.D
section Own
variable {p : Program} {l : Launch} {e : Env} {R : Room} {s : State} {m : MethodId} {args : Array Value} {below : List Frame} {meth : Method} {c : Code} {T T' Z : State} {locs : List Loc} {cells slots : Nat} {P : Outcome → State → Prop} {a0 : Array Value} {h : Heap}
/-- from the frame g over the state T the run ends, and P holds of the end -/
def Ends (p : Program) (e : Env) (below : List Frame) (P : Outcome → State → Prop) (T : State) (g : JFrame) : Prop :=
  ∃ s₂ o, Steps p.tables e below (T.setTop g) s₂ ∧ s₂.status = .running ∧ Ended s₂ below o ∧ P o s₂
theorem Ends.by {g g' : JFrame} (h : ∀ t, Steps p.tables e below (T'.setTop g') t → Steps p.tables e below (T.setTop g) t) (k : Ends p e below P T' g') : Ends p e below P T g :=
  let ⟨s₂, o, h1, r⟩ := k; ⟨s₂, o, h _ h1, r⟩
theorem Ends.on {g g' : JFrame} (h : Steps p.tables e below (T.setTop g) (T'.setTop g')) (k : Ends p e below P T' g') : Ends p e below P T g :=
  let ⟨s₂, o, h1, r⟩ := k; ⟨s₂, o, h.trans h1, r⟩
/-- the end: it returned v, Q holds of v, the heap and the places written; the frame -/
def Fini (s : State) (Q : Option Value → Heap → List Loc → Prop) (rc rs : Nat) : Outcome → State → Prop :=
  fun o U' => ∃ v L, o = .returned v ∧ Q v U'.heap L ∧ FrameEnd s o U' L rc rs
/-- a body's contract: from these arguments over the heap h0 it returns with Q -/
def Con (l : Launch) (Z : State) (y : MethodName) (bytes : ByteArray) (maxL : Nat) (ret : Option FieldType) (rm : Room) (as' : Array Value) (h0 : Heap) (Q : Option Value → Heap → List Loc → Prop) : Prop :=
  ∀ ws : List Jvm.Cond, MetFree l y (head1 (Jvm.Cond.code y bytes maxL ret :: ws) rm) (fun a U => a = as' ∧ Z.Warmed39 U.vm ∧ U.heap = h0) (fun _ _ _ _ _ => True) (fun _ U o U' => ∃ v L, o = .returned v ∧ Q v U'.heap L ∧ FrameEnd U o U' L rm.cells rm.slots)
theorem Con.intro {y : MethodName} {bytes : ByteArray} {maxL : Nat} {ret : Option FieldType} {rm : Room} {as' : Array Value} {h0 : Heap} {Q : Option Value → Heap → List Loc → Prop} (hpl : plainFor y = true)
    (body : ∀ (p : Program) (e : Env) (s : State) (m : MethodId) (below : List Frame) (meth : Method) (c : Code) (s₁ : State), p.tables.exec = Jvm.exec → c.code = bytes → c.maxLocals = maxL → s.vm.findClass y.cls = some m.cls → meth.name = y.name → meth.sig.returnType = ret → meth.locks = false → Z.Warmed39 s.vm →
      Stand p l e rm s m as' below meth c s₁ [] 0 0 → s₁.heap = h0 → Ends p e below (Fini s Q rm.cells rm.slots) s₁ (entryFrame m as' maxL)) : Con l Z y bytes maxL ret rm as' h0 Q := by
  intro ws
  refine MetFree.of_bodySF hpl hisR ?_
  intro p e s m args below meth c s₁ Bd hml0 hP hK
  obtain ⟨rfl, hZ, hh⟩ := hP
  have X0 : Stand p l e rm s m args below meth c s₁ [] 0 0 := Stand.of_body Bd
  have e0 : s₁.heap = h0 := by rw [← hh, Bd.state]; rfl
  exact body p e s m below meth c s₁ Bd.exec Bd.bytes hml0 (findClass_of_methodNamed Bd.named) (name_of_methodNamed Bd.named Bd.method).1 Bd.returns Bd.notSynchronized hZ X0 e0
theorem Con.mono {y : MethodName} {bytes : ByteArray} {maxL : Nat} {ret : Option FieldType} {rm : Room} {as' : Array Value} {h0 : Heap} {Q Q' : Option Value → Heap → List Loc → Prop} (C : Con l Z y bytes maxL ret rm as' h0 Q) (hq : ∀ v h L, Q v h L → Q' v h L) : Con l Z y bytes maxL ret rm as' h0 Q' :=
  fun ws p e ha hc hk s m args below hf happ hP hK => let ⟨n, o, h1, h2, h3, v, L, r1, r2, r3⟩ := C ws p e ha hc hk s m args below hf happ hP hK; ⟨n, o, h1, h2, h3, v, L, r1, hq _ _ _ r2, r3⟩
theorem Ends.cast {g g' : JFrame} (q : g = g') (k : Ends p e below P T g') : Ends p e below P T g := q ▸ k
theorem Ends.retV (X : Stand p l e R s m args below meth c T locs cells slots) (hx : p.tables.exec = Jvm.exec) (hlk : meth.locks = false) {pc : Nat} {Ls : Array Slot} (hret : meth.sig.returnType = none) (hd : decode c.code pc = .ok (.return_, 1))
    {Q : Option Value → Heap → List Loc → Prop} {rc rs : Nat} (hc : cells ≤ rc) (hs : slots ≤ rs) (hQ : Q none T.heap locs) : Ends p e below (Fini s Q rc rs) T (mkF m pc Ls []) := by
  obtain ⟨fs, hr, hrun, hended, hW, hsame⟩ := X.leave (v := none) (fun _ => rfl) hlk
  exact ⟨_, _, X.returnOut hx hret hd hr, hrun, hended, _, _, rfl, hQ, ⟨_, rfl⟩, hW, hsame.mono hc hs⟩
theorem Ends.retI (X : Stand p l e R s m args below meth c T locs cells slots) (hx : p.tables.exec = Jvm.exec) (hlk : meth.locks = false) {pc : Nat} {Ls : Array Slot} {z : Int32} {rest : List Value} (hret : meth.sig.returnType = some .int) (hd : decode c.code pc = .ok (.ireturn, 1))
    {Q : Option Value → Heap → List Loc → Prop} {rc rs : Nat} (hc : cells ≤ rc) (hs : slots ≤ rs) (hQ : Q (some (.int z)) T.heap locs) : Ends p e below (Fini s Q rc rs) T (mkF m pc Ls (.int z :: rest)) := by
  obtain ⟨fs, hr, hrun, hended, hW, hsame⟩ := X.leave (v := some (.int z)) (fun h => by rw [hret] at h; cases h) hlk
  exact ⟨_, _, retOut X hx hret rfl (Or.inl ⟨rfl, Or.inl rfl, z, rfl⟩) hd hr, hrun, hended, _, _, rfl, hQ, ⟨_, rfl⟩, hW, hsame.mono hc hs⟩
theorem Ends.retL (X : Stand p l e R s m args below meth c T locs cells slots) (hx : p.tables.exec = Jvm.exec) (hlk : meth.locks = false) {pc : Nat} {Ls : Array Slot} {z : Int64} {rest : List Value} (hret : meth.sig.returnType = some .long) (hd : decode c.code pc = .ok (.lreturn, 1))
    {Q : Option Value → Heap → List Loc → Prop} {rc rs : Nat} (hc : cells ≤ rc) (hs : slots ≤ rs) (hQ : Q (some (.long z)) T.heap locs) : Ends p e below (Fini s Q rc rs) T (mkF m pc Ls (.long z :: rest)) := by
  obtain ⟨fs, hr, hrun, hended, hW, hsame⟩ := X.leave (v := some (.long z)) (fun h => by rw [hret] at h; cases h) hlk
  exact ⟨_, _, retOut X hx hret rfl (Or.inr (Or.inl ⟨rfl, rfl, z, rfl⟩)) hd hr, hrun, hended, _, _, rfl, hQ, ⟨_, rfl⟩, hW, hsame.mono hc hs⟩
theorem Ends.retA (X : Stand p l e R s m args below meth c T locs cells slots) (hx : p.tables.exec = Jvm.exec) (hlk : meth.locks = false) {pc : Nat} {Ls : Array Slot} {t : FieldType} {a : Addr} {rest : List Value} (hret : meth.sig.returnType = some t) (ht : t.isReference = true) (hn : narrow t (.ref a) = .ref a) (hd : decode c.code pc = .ok (.areturn, 1))
    {Q : Option Value → Heap → List Loc → Prop} {rc rs : Nat} (hc : cells ≤ rc) (hs : slots ≤ rs) (hQ : Q (some (.ref a)) T.heap locs) : Ends p e below (Fini s Q rc rs) T (mkF m pc Ls (.ref a :: rest)) := by
  obtain ⟨fs, hr, hrun, hended, hW, hsame⟩ := X.leave (v := some (.ref a)) (fun h => by rw [hret] at h; cases h) hlk
  exact ⟨_, _, retOut X hx hret hn (Or.inr (Or.inr (Or.inr (Or.inr ⟨rfl, ht, rfl⟩)))) hd hr, hrun, hended, _, _, rfl, hQ, ⟨_, rfl⟩, hW, hsame.mono hc hs⟩
/-- a boolean that is 0 or 1 -/
theorem Ends.retZ (X : Stand p l e R s m args below meth c T locs cells slots) (hx : p.tables.exec = Jvm.exec) (hlk : meth.locks = false) {pc : Nat} {Ls : Array Slot} {z : Int32} {rest : List Value} (hret : meth.sig.returnType = some .boolean) (hd : decode c.code pc = .ok (.ireturn, 1)) (h01 : z &&& 1 = z)
    {Q : Option Value → Heap → List Loc → Prop} {rc rs : Nat} (hc : cells ≤ rc) (hs : slots ≤ rs) (hQ : Q (some (.int z)) T.heap locs) : Ends p e below (Fini s Q rc rs) T (mkF m pc Ls (.int z :: rest)) := by
  obtain ⟨fs, hr, hrun, hended, hW, hsame⟩ := X.leave (v := some (.int z)) (fun h => by rw [hret] at h; cases h) hlk
  have hn : nar .boolean z = z := h01
  refine ⟨_, _, retN X hx (t := .boolean) hret (by simp) hd (fs := fs) ?_, hrun, hended, _, _, rfl, hQ, ⟨_, rfl⟩, hW, hsame.mono hc hs⟩
  rw [hn]; exact hr
/-- a static method by its contract -/
theorem Ends.callS (X : Stand p l e R s m args below meth c T locs cells slots) (hx : p.tables.exec = Jvm.exec) (hZ : Z.Warmed39 s.vm) {own : String} {index : Nat} {y : MethodName} {bytes : ByteArray} {maxL : Nat} {ret : Option FieldType}
    (hown : s.vm.findClass own = some m.cls) (w1 : (Jvm.Cond.methodLink own index y).before a0 Z = true) (w2 : (Jvm.Cond.static y).before a0 Z = true) (w3 : (Jvm.Cond.initialized y.cls).before a0 Z = true) (w4 : (Jvm.Cond.code y bytes maxL ret).before a0 Z = true)
    (hy : y.cls ≠ "java/lang/invoke/MethodHandle" ∧ y.cls ≠ "java/lang/invoke/VarHandle") {rm : Room} {argsL rest : List Value} {Q : Option Value → Heap → List Loc → Prop} (C : Con l Z y bytes maxL ret rm argsL.toArray h Q) (eT : T.heap = h)
    {pc : Nat} {Ls : Array Slot} (hsize : Ls.size = c.maxLocals) (hd : decode c.code pc = .ok (.invokestatic index, 3)) (hlen : ∀ sig, parseMethodDescriptor y.desc = some sig → argsL.length = sig.parameters.length)
    (W : Nat) (hW : (rest.map fun v => v.category).sum ≤ W) (hf : rm.frames + 1 ≤ R.frames) (hl : W + (maxL + 11) + rm.locals ≤ R.locals) (hc : cells + rm.cells ≤ R.cells) (hs : slots + rm.slots ≤ R.slots)
    (k : ∀ v T' L, Stand p l e R s m args below meth c T' (locs ++ L) (cells + rm.cells) (slots + rm.slots) → Q v T'.heap L → Ends p e below P T' (mkF m (pc + 3) Ls (v.toList ++ rest))) :
    Ends p e below P T (mkF m pc Ls (argsL.reverse ++ rest)) := by
  obtain ⟨v, _, ⟨T1, L1, k1, n1⟩, -, X1, ⟨Lc, hQ, l1, y1, z1⟩, st⟩ := Jvm.LawKit.callS X hx (y := y) hown (mvT hZ w1) (mvT hZ w2) (mvT hZ w3) (mvT hZ w4) hy (backOf (W := W) (C []) hZ w4 w3 hf hl) (g := mkF m pc Ls (argsL.reverse ++ rest)) rfl hsize (argsL := argsL) (rest := rest) hlen rfl (by show 2 * 0 + _ ≤ _; omega) hd (fun _ _ => ⟨rfl, eT, hc, hs⟩)
  dsimp only [Pt.U, Pt.locs, Pt.cells, Pt.slots] at X1 l1 y1 z1 st hQ
  subst l1 y1 z1
  exact Ends.by st (k v T1 Lc X1 hQ)
/-- a constructor by its contract -/
theorem Ends.callI (X : Stand p l e R s m args below meth c T locs cells slots) (hx : p.tables.exec = Jvm.exec) (hZ : Z.Warmed39 s.vm) {own : String} {index : Nat} {y : MethodName} {bytes : ByteArray} {maxL : Nat} (hy1 : y.name = "<init>")
    (hown : s.vm.findClass own = some m.cls) (w1 : (Jvm.Cond.methodLink own index y).before a0 Z = true) (w2 : (Jvm.Cond.instanceMethod y).before a0 Z = true) (w3 : (Jvm.Cond.initialized y.cls).before a0 Z = true) (w4 : (Jvm.Cond.code y bytes maxL none).before a0 Z = true)
    (hy : y.cls ≠ "java/lang/invoke/MethodHandle" ∧ y.cls ≠ "java/lang/invoke/VarHandle") {rm : Room} {a : Addr} {argsL rest : List Value} {Q : Option Value → Heap → List Loc → Prop} (C : Con l Z y bytes maxL none rm (.ref a :: argsL).toArray h Q) (eT : T.heap = h)
    {pc : Nat} {Ls : Array Slot} (hsize : Ls.size = c.maxLocals) (hd : decode c.code pc = .ok (.invokespecial index, 3)) (hlen : ∀ sig, parseMethodDescriptor y.desc = some sig → argsL.length = sig.parameters.length)
    (W : Nat) (hW : (rest.map fun v => v.category).sum ≤ W) (hf : rm.frames + 1 ≤ R.frames) (hl : W + (maxL + 11) + rm.locals ≤ R.locals) (hc : cells + rm.cells ≤ R.cells) (hs : slots + rm.slots ≤ R.slots)
    (k : ∀ v T' L, Stand p l e R s m args below meth c T' (locs ++ L) (cells + rm.cells) (slots + rm.slots) → Q v T'.heap L → Ends p e below P T' (mkF m (pc + 3) Ls (v.toList ++ rest))) :
    Ends p e below P T (mkF m pc Ls (argsL.reverse ++ .ref a :: rest)) := by
  obtain ⟨v, _, ⟨T1, L1, k1, n1⟩, -, X1, ⟨Lc, hQ, l1, y1, z1⟩, st⟩ := X.specialBack hx (y := y) hy1 hown (mvT hZ w1) (mvT hZ w2) (mvT hZ w4) hy (backOf (W := W) (C []) hZ w4 w3 hf hl) (g := mkF m pc Ls (argsL.reverse ++ .ref a :: rest)) rfl hsize (Steps.refl _) (a := a) (argsL := argsL) (rest := rest) hlen rfl (by show 2 * 0 + _ ≤ _; omega) hd (fun _ _ => ⟨rfl, eT, hc, hs⟩)
  dsimp only [Pt.U, Pt.locs, Pt.cells, Pt.slots] at X1 l1 y1 z1 st hQ
  subst l1 y1 z1
  exact Ends.on st (k v T1 Lc X1 hQ)
/-- an instance method, declared and selected in the receiver's own class -/
theorem Ends.callV (X : Stand p l e R s m args below meth c T locs cells slots) (hx : p.tables.exec = Jvm.exec) (hZ : Z.Warmed39 s.vm) {own : String} {index : Nat} {y : MethodName} {bytes : ByteArray} {maxL : Nat} {ret : Option FieldType}
    (hown : s.vm.findClass own = some m.cls) (w1 : (Jvm.Cond.methodLink own index y).before a0 Z = true) (wd : (Jvm.Cond.declares y).before a0 Z = true) (w2 : (Jvm.Cond.instanceMethod y).before a0 Z = true) (ws : (Jvm.Cond.selects y.cls y y).before a0 Z = true) (w3 : (Jvm.Cond.initialized y.cls).before a0 Z = true) (w4 : (Jvm.Cond.code y bytes maxL ret).before a0 Z = true)
    (hy : y.cls ≠ "java/lang/invoke/MethodHandle" ∧ y.cls ≠ "java/lang/invoke/VarHandle") {rm : Room} {a : Addr} {argsL rest : List Value} {Q : Option Value → Heap → List Loc → Prop} (C : Con l Z y bytes maxL ret rm (.ref a :: argsL).toArray h Q) (eT : T.heap = h) (E : Exa Z h a y.cls)
    {pc : Nat} {Ls : Array Slot} (hsize : Ls.size = c.maxLocals) (hd : decode c.code pc = .ok (.invokevirtual index, 3)) (hlen : ∀ sig, parseMethodDescriptor y.desc = some sig → argsL.length = sig.parameters.length)
    (W : Nat) (hW : (rest.map fun v => v.category).sum ≤ W) (hf : rm.frames + 1 ≤ R.frames) (hl : W + (maxL + 11) + rm.locals ≤ R.locals) (hc : cells + rm.cells ≤ R.cells) (hs : slots + rm.slots ≤ R.slots)
    (k : ∀ v T' L, Stand p l e R s m args below meth c T' (locs ++ L) (cells + rm.cells) (slots + rm.slots) → Q v T'.heap L → Ends p e below P T' (mkF m (pc + 3) Ls (v.toList ++ rest))) :
    Ends p e below P T (mkF m pc Ls (argsL.reverse ++ .ref a :: rest)) := by
  obtain ⟨cq, kq, qa, qb, qc⟩ := isOf (T := T) hZ eT E
  obtain ⟨v, _, ⟨T1, L1, k1, n1⟩, -, X1, ⟨Lc, hQ, l1, y1, z1⟩, st⟩ := X.virtualBack hx (y := y) (z := y) hown (mvT hZ w1) (mvT hZ wd) (notFace_of_selects (args := #[]) (mvT hZ ws)) (mvT hZ ws) (mvT hZ w2) hy (backOf (W := W) (C []) hZ w4 w3 hf hl) qa qc (g := mkF m pc Ls (argsL.reverse ++ .ref a :: rest)) rfl hsize (Steps.refl _) (argsL := argsL) (rest := rest) hlen rfl (by show 2 * 0 + _ ≤ _; omega) hd (fun _ _ => ⟨rfl, eT, hc, hs⟩)
  dsimp only [Pt.U, Pt.locs, Pt.cells, Pt.slots] at X1 l1 y1 z1 st hQ
  subst l1 y1 z1
  exact Ends.on st (k v T1 Lc X1 hQ)
/-- nothing is written, nothing made: it returns v -/
def Pure (h0 : Heap) (r : Option Value) (v : Option Value) (h : Heap) (L : List Loc) : Prop := v = r ∧ h = h0 ∧ L = []
/-- the six comparisons, both ways at once -/
theorem Ends.icmp (X : Stand p l e R s m args below meth c T locs cells slots) (hx : p.tables.exec = Jvm.exec) {cd : ClassFile.Cond} {x y : Int32} {o : Int} {pc : Nat} {Ls : Array Slot} {rest : List Value} (hd : decode c.code pc = .ok (.if_icmp cd o, 3)) (pc' : Nat) (ho : 0 ≤ (pc : Int) + o) (hp : ((pc : Int) + o).toNat = pc')
    (kT : if_icmp.holds cd x y = true → Ends p e below P T (mkF m pc' Ls rest)) (kF : if_icmp.holds cd x y = false → Ends p e below P T (mkF m (pc + 3) Ls rest)) : Ends p e below P T (mkF m pc Ls (.int y :: .int x :: rest)) := by
  rcases hb : if_icmp.holds cd x y with _ | _
  · exact Ends.by (fun _ => XS.icmpNo X.here hx rfl hd rfl hb) (kF hb)
  · exact Ends.by (fun _ => XS.icmpYes X.here hx rfl (pc0 := pc) (pc' := pc') rfl hd rfl hb ho hp) (kT hb)
theorem own_wrap {x y : Int} (h : (x - y) % 4294967296 = 0) (r : -2147483648 ≤ x ∧ x < 2147483648) (b : -2147483648 ≤ y ∧ y < 2147483648) : x = y := by omega
theorem own_andor (x a b : Int32) : (x &&& a) ||| (x &&& b) = x &&& (a ||| b) := by
  apply Int32.toBitVec_inj.mp
  rw [Int32.toBitVec_or, Int32.toBitVec_and, Int32.toBitVec_and, Int32.toBitVec_and, Int32.toBitVec_or, ← BitVec.and_or_distrib_left]
theorem own_lt {x y : Int32} : (if_icmp.holds .lt x y = true → x < y) ∧ (if_icmp.holds .lt x y = false → ¬ x < y) := ⟨fun q => Classical.byContradiction fun n => (by rw [(flt n).1] at q; cases q), fun q n => (by rw [(tlt n).1] at q; cases q)⟩
theorem own_ge {x y : Int32} : (if_icmp.holds .ge x y = true → ¬ x < y) ∧ (if_icmp.holds .ge x y = false → x < y) := ⟨fun q n => (by rw [(tlt n).2.1] at q; cases q), fun q => Classical.byContradiction fun n => (by rw [(flt n).2.1] at q; cases q)⟩
theorem own_gt {x y : Int32} : (if_icmp.holds .gt x y = true → y < x) ∧ (if_icmp.holds .gt x y = false → ¬ y < x) := ⟨fun q => Classical.byContradiction fun n => (by rw [(flt n).2.2.1] at q; cases q), fun q n => (by rw [(tlt n).2.2.1] at q; cases q)⟩
theorem own_le {x y : Int32} : (if_icmp.holds .le x y = true → ¬ y < x) ∧ (if_icmp.holds .le x y = false → y < x) := ⟨fun q n => (by rw [(tlt n).2.2.2] at q; cases q), fun q => Classical.byContradiction fun n => (by rw [(flt n).2.2.2] at q; cases q)⟩
theorem own_eq {x y : Int32} : (if_icmp.holds .eq x y = true → x = y) ∧ (if_icmp.holds .eq x y = false → ¬ x = y) := ⟨fun q => Classical.byContradiction fun n => (by rw [(feq n).1] at q; cases q), fun q n => (by rw [(teq n).1] at q; cases q)⟩
theorem own_ne {x y : Int32} : (if_icmp.holds .ne x y = true → ¬ x = y) ∧ (if_icmp.holds .ne x y = false → x = y) := ⟨fun q n => (by rw [(teq n).2] at q; cases q), fun q => Classical.byContradiction fun n => (by rw [(feq n).2] at q; cases q)⟩
theorem Ends.ifc (X : Stand p l e R s m args below meth c T locs cells slots) (hx : p.tables.exec = Jvm.exec) {cd : ClassFile.Cond} {x : Int32} {o : Int} {pc : Nat} {Ls : Array Slot} {rest : List Value} (hd : decode c.code pc = .ok (.ifCond cd o, 3)) (pc' : Nat) (ho : 0 ≤ (pc : Int) + o) (hp : ((pc : Int) + o).toNat = pc')
    (kT : if_icmp.holds cd x 0 = true → Ends p e below P T (mkF m pc' Ls rest)) (kF : if_icmp.holds cd x 0 = false → Ends p e below P T (mkF m (pc + 3) Ls rest)) : Ends p e below P T (mkF m pc Ls (.int x :: rest)) := by
  rcases hb : if_icmp.holds cd x 0 with _ | _
  · exact Ends.by (fun _ => XS.ifNo X.here hx rfl hd rfl ((if0 _ _).trans hb)) (kF hb)
  · exact Ends.by (fun _ => XS.ifYes X.here hx rfl (pc0 := pc) (pc' := pc') rfl hd rfl ((if0 _ _).trans hb) ho hp) (kT hb)
end Own
end Jvm.Pilot.@@N@@
namespace Jvm.Pilot.@@N@@
open Jvm Jvm.ClassFile Sem Op Lib Jvm.Free Jvm.Stand Jvm.LawKit Jvm.RoadKit Bundle Jvm.Pilot.@@N@@.Jvm.D
section Own2
variable {p : Program} {l : Launch} {e : Env} {R : Room} {s : State} {m : MethodId} {args : Array Value} {below : List Frame} {meth : Method} {c : Code} {T T' Z : State} {locs : List Loc} {cells slots : Nat} {P : Outcome → State → Prop} {a0 : Array Value} {h h' h0 : Heap} {a b : Addr} {ty : FieldType} {n k n0 : Nat} {f : Nat → Value} {ws : List Addr}
/-- g with v at the place k -/
def upd {α : Type} (g : Nat → α) (k : Nat) (v : α) : Nat → α := fun i => if i = k then v else g i
theorem upd_hit {α : Type} (g : Nat → α) (k : Nat) (v : α) : upd g k v k = v := if_pos rfl
theorem upd_miss {α : Type} (g : Nat → α) {k i : Nat} (v : α) (q : i ≠ k) : upd g k v i = g i := if_neg q
/-- an array of n elements, the i-th is f i -/
def Af (Z : State) (h : Heap) (a : Addr) (ty : FieldType) (n : Nat) (f : Nat → Value) : Prop :=
  ∃ c : Cell, Arr Z h a c ty ∧ c.slots.size = n ∧ n < 2147483648 ∧ (∀ i, i < n → c.slots[i]? = some (f i)) ∧ ∀ i, i < n → fits ty (f i) = true
theorem Af.lt (F : Af Z h a ty n f) : a < h.size := by obtain ⟨c, A, -⟩ := F; exact A.lt
theorem Af.small (F : Af Z h a ty n f) : n < 2147483648 := by obtain ⟨c, -, -, q, -⟩ := F; exact q
theorem Af.ext (F : Af Z h a ty n f) (E : Ext h h') : Af Z h' a ty n f := by obtain ⟨c, A, r⟩ := F; exact ⟨c, A.ext E, r⟩
theorem Af.keep (F : Af Z h a ty n f) (K : Keep h h' ws) (q : a ∉ ws) : Af Z h' a ty n f := by obtain ⟨c, A, r⟩ := F; exact ⟨c, ⟨K.2.1 a c A.1 q, A.2⟩, r⟩
theorem Af.other {sl : Nat} {v : Value} (F : Af Z h b ty n f) (W : Wr h h' a sl v) (q : b ≠ a) : Af Z h' b ty n f := by obtain ⟨c, A, r⟩ := F; exact ⟨c, A.other W q, r⟩
theorem Af.congr {f' : Nat → Value} (F : Af Z h a ty n f) (q : ∀ i, i < n → f' i = f i) : Af Z h a ty n f' := by
  obtain ⟨c, A, r1, r2, r3, r4⟩ := F; exact ⟨c, A, r1, r2, fun i hi => by rw [q i hi]; exact r3 i hi, fun i hi => by rw [q i hi]; exact r4 i hi⟩
theorem Af.set {v : Value} (F : Af Z h a ty n f) (W : Wr h h' a k v) (hk : k < n) (hv : fits ty v = true) : Af Z h' a ty n (upd f k v) := by
  obtain ⟨c, A, r1, r2, r3, r4⟩ := F
  refine ⟨c.setSlot k v, A.same W, by rw [sz_set]; exact r1, r2, fun i hi => ?_, fun i hi => ?_⟩
  · by_cases q : i = k
    · subst q; rw [upd_hit]; simp [Cell.setSlot, r1, hi]
    · rw [upd_miss _ _ q, ← r3 i hi]; simp [Cell.setSlot, Array.getElem?_setIfInBounds, Ne.symm q]
  · by_cases q : i = k
    · subst q; rw [upd_hit]; exact hv
    · rw [upd_miss _ _ q]; exact r4 i hi
theorem Af.new {k : ClassId} {z : Int32} (A : Arr Z h a (newA k ty z) ty) (q : z.toInt = (n : Int)) (hd : fits ty (defaultValue ty) = true) : Af Z h a ty n (fun _ => defaultValue ty) := by
  have e : z.toNatClampNeg = n := by show z.toInt.toNat = n; omega
  have r := z.toInt_lt
  refine ⟨_, A, by rw [sz_new, e], by omega, fun i hi => ?_, fun i _ => hd⟩
  simp [newA, e, hi]
theorem own_idx {j : Int32} (q : j.toInt = (k : Int)) : j.toNatClampNeg = k ∧ ¬ j < 0 := by
  refine ⟨by show j.toInt.toNat = k; omega, ?_⟩
  rw [Int32.lt_iff_toInt_lt]; have : (0 : Int32).toInt = 0 := rfl; omega
theorem own_inb {j : Int32} {c : Cell} (S : c.slots.size = n) (q : j.toInt = (k : Int)) (hk : k < n) : ¬ (j < 0 ∨ c.slots.size ≤ j.toNatClampNeg) := by
  obtain ⟨q1, q2⟩ := own_idx q
  rw [S, q1]; intro o; rcases o with o | o
  · exact q2 o
  · omega
/-- the array's length -/
theorem Ends.len (X : Stand p l e R s m args below meth c T locs cells slots) (hx : p.tables.exec = Jvm.exec) (hZ : Z.Warmed39 s.vm) (eT : T.heap = h) (F : Af Z h a ty n f) {z : Int32} (hz : z.toInt = (n : Int)) {pc : Nat} {Ls : Array Slot} {rest : List Value} (hd : decode c.code pc = .ok (.arraylength, 1))
    (kk : Ends p e below P T (mkF m (pc + 1) Ls (.int z :: rest))) : Ends p e below P T (mkF m pc Ls (.ref a :: rest)) := by
  obtain ⟨cl, A, r1, r2, -⟩ := F
  refine Ends.by (fun t => X.arraylength hx (by rw [eT]; exact A.1) (State.isArrayOf_alike hZ.alike A.2.1) (g := mkF m pc Ls (.ref a :: rest)) rfl rfl hd t) ?_
  have q : cl.slots.size.toInt32 = z := by
    apply Int32.toInt_inj.mp; rw [r1, hz]; exact Int32.toInt_ofNat_of_lt (by omega)
  rw [q]; exact kk
theorem Ends.ldB (X : Stand p l e R s m args below meth c T locs cells slots) (hx : p.tables.exec = Jvm.exec) (hZ : Z.Warmed39 s.vm) (eT : T.heap = h) (F : Af Z h a .byte n f) {j : Int32} (hj : j.toInt = (k : Int)) (hk : k < n) {v : Value} (hv : f k = v) {pc : Nat} {Ls : Array Slot} {rest : List Value} (hd : decode c.code pc = .ok (.baload, 1))
    (kk : Ends p e below P T (mkF m (pc + 1) Ls (v :: rest))) : Ends p e below P T (mkF m pc Ls (.int j :: .ref a :: rest)) := by
  obtain ⟨cl, A, r1, r2, r3, -⟩ := F
  exact Ends.by (fun t => X.baloadBytes hx (j := j) (v := v) (by rw [eT]; exact A.1) (State.isArrayOf_alike hZ.alike A.2.1) A.2.2 (own_inb r1 hj hk) (by rw [(own_idx hj).1, ← hv]; exact r3 k hk) (g := mkF m pc Ls (.int j :: .ref a :: rest)) rfl rfl hd t) kk
theorem Ends.ldI (X : Stand p l e R s m args below meth c T locs cells slots) (hx : p.tables.exec = Jvm.exec) (hZ : Z.Warmed39 s.vm) (eT : T.heap = h) (F : Af Z h a .int n f) {j : Int32} (hj : j.toInt = (k : Int)) (hk : k < n) {v : Value} (hv : f k = v) {pc : Nat} {Ls : Array Slot} {rest : List Value} (hd : decode c.code pc = .ok (.iaload, 1))
    (kk : Ends p e below P T (mkF m (pc + 1) Ls (v :: rest))) : Ends p e below P T (mkF m pc Ls (.int j :: .ref a :: rest)) := by
  obtain ⟨cl, A, r1, r2, r3, -⟩ := F
  exact Ends.by (fun t => X.iaload hx (j := j) (v := v) (by rw [eT]; exact A.1) (State.isArrayOf_alike hZ.alike A.2.1) A.2.2 (own_inb r1 hj hk) (by rw [(own_idx hj).1, ← hv]; exact r3 k hk) (g := mkF m pc Ls (.int j :: .ref a :: rest)) rfl rfl hd t) kk
theorem Ends.ldJ (X : Stand p l e R s m args below meth c T locs cells slots) (hx : p.tables.exec = Jvm.exec) (hZ : Z.Warmed39 s.vm) (eT : T.heap = h) (F : Af Z h a .long n f) {j : Int32} (hj : j.toInt = (k : Int)) (hk : k < n) {v : Value} (hv : f k = v) {pc : Nat} {Ls : Array Slot} {rest : List Value} (hd : decode c.code pc = .ok (.laload, 1))
    (kk : Ends p e below P T (mkF m (pc + 1) Ls (v :: rest))) : Ends p e below P T (mkF m pc Ls (.int j :: .ref a :: rest)) := by
  obtain ⟨cl, A, r1, r2, r3, -⟩ := F
  exact Ends.by (fun t => X.laload hx (j := j) (v := v) (by rw [eT]; exact A.1) (State.isArrayOf_alike hZ.alike A.2.1) A.2.2 (own_inb r1 hj hk) (by rw [(own_idx hj).1, ← hv]; exact r3 k hk) (g := mkF m pc Ls (.int j :: .ref a :: rest)) rfl rfl hd t) kk
theorem own_snoc {sl : Nat} (N : Fr n0 locs) (q : n0 ≤ a) : Fr n0 (locs ++ [⟨a, sl⟩]) := N.app fun y hy => by cases List.mem_singleton.mp hy; exact q
theorem Ends.stB (X : Stand p l e R s m args below meth c T locs cells slots) (hx : p.tables.exec = Jvm.exec) (hZ : Z.Warmed39 s.vm) (eT : T.heap = h) (N : Fr n0 locs) (ge : n0 ≤ a) (F : Af Z h a .byte n f) {j x : Int32} (hj : j.toInt = (k : Int)) (hk : k < n) {pc : Nat} {Ls : Array Slot} {rest : List Value} (hd : decode c.code pc = .ok (.bastore, 1))
    (kk : ∀ T' h' L', Stand p l e R s m args below meth c T' L' cells slots → T'.heap = h' → Fr n0 L' → Wr h h' a k (.int x.toInt8.toInt32) → Af Z h' a .byte n (upd f k (.int x.toInt8.toInt32)) → Ends p e below P T' (mkF m (pc + 1) Ls rest)) : Ends p e below P T (mkF m pc Ls (.int x :: .int j :: .ref a :: rest)) := by
  obtain ⟨cl, A, r1, r2, r3, r4⟩ := F
  obtain ⟨T1, h1, X1, e1, W1, st⟩ := Jvm.RoadKit.stB X hx hZ eT A (j := j) (x := x) (own_inb r1 hj hk) (g := mkF m pc Ls (.int x :: .int j :: .ref a :: rest)) rfl rfl hd
  rw [(own_idx hj).1] at W1
  have W2 : Wr h h1 a k (.int x.toInt8.toInt32) := W1
  exact Ends.by st (kk T1 h1 _ X1 e1 (own_snoc N ge) W2 (Af.set ⟨cl, A, r1, r2, r3, r4⟩ W2 hk (fits_nar_byte x)))
theorem Ends.stI (X : Stand p l e R s m args below meth c T locs cells slots) (hx : p.tables.exec = Jvm.exec) (hZ : Z.Warmed39 s.vm) (eT : T.heap = h) (N : Fr n0 locs) (ge : n0 ≤ a) (F : Af Z h a .int n f) {j x : Int32} (hj : j.toInt = (k : Int)) (hk : k < n) {pc : Nat} {Ls : Array Slot} {rest : List Value} (hd : decode c.code pc = .ok (.iastore, 1))
    (kk : ∀ T' h' L', Stand p l e R s m args below meth c T' L' cells slots → T'.heap = h' → Fr n0 L' → Wr h h' a k (.int x) → Af Z h' a .int n (upd f k (.int x)) → Ends p e below P T' (mkF m (pc + 1) Ls rest)) : Ends p e below P T (mkF m pc Ls (.int x :: .int j :: .ref a :: rest)) := by
  obtain ⟨cl, A, r1, r2, r3, r4⟩ := F
  obtain ⟨T1, h1, X1, e1, W1, st⟩ := Jvm.RoadKit.stI X hx hZ eT A (j := j) (x := x) (own_inb r1 hj hk) (g := mkF m pc Ls (.int x :: .int j :: .ref a :: rest)) rfl rfl hd
  rw [(own_idx hj).1] at W1
  exact Ends.by st (kk T1 h1 _ X1 e1 (own_snoc N ge) W1 (Af.set ⟨cl, A, r1, r2, r3, r4⟩ W1 hk rfl))
theorem Ends.stJ (X : Stand p l e R s m args below meth c T locs cells slots) (hx : p.tables.exec = Jvm.exec) (hZ : Z.Warmed39 s.vm) (eT : T.heap = h) (N : Fr n0 locs) (ge : n0 ≤ a) (F : Af Z h a .long n f) {j : Int32} {x : Int64} (hj : j.toInt = (k : Int)) (hk : k < n) {pc : Nat} {Ls : Array Slot} {rest : List Value} (hd : decode c.code pc = .ok (.lastore, 1))
    (kk : ∀ T' h' L', Stand p l e R s m args below meth c T' L' cells slots → T'.heap = h' → Fr n0 L' → Wr h h' a k (.long x) → Af Z h' a .long n (upd f k (.long x)) → Ends p e below P T' (mkF m (pc + 1) Ls rest)) : Ends p e below P T (mkF m pc Ls (.long x :: .int j :: .ref a :: rest)) := by
  obtain ⟨cl, A, r1, r2, r3, r4⟩ := F
  obtain ⟨T1, h1, X1, e1, W1, st⟩ := Jvm.RoadKit.stJ X hx hZ eT A (j := j) (x := x) (own_inb r1 hj hk) (g := mkF m pc Ls (.long x :: .int j :: .ref a :: rest)) rfl rfl hd
  rw [(own_idx hj).1] at W1
  exact Ends.by st (kk T1 h1 _ X1 e1 (own_snoc N ge) W1 (Af.set ⟨cl, A, r1, r2, r3, r4⟩ W1 hk rfl))
/-- a new array of bytes, ints, longs .. -/
theorem Ends.newA (X : Stand p l e R s m args below meth c T locs cells slots) (hx : p.tables.exec = Jvm.exec) (hZ : Z.Warmed39 s.vm) {aty : ArrayType} (w : (Jvm.Cond.arrayClass (newarray.typeOf aty)).before a0 Z = true) (eT : T.heap = h) {z : Int32} (hz : z.toInt = (n : Int)) (cap : Nat) (hcap : n ≤ cap) (hb : cap * 8 ≤ 536870912) (hc : cells + 1 ≤ R.cells) (hl : slots + cap ≤ R.slots) (hdf : fits (newarray.typeOf aty) (defaultValue (newarray.typeOf aty)) = true)
    {ad : String} (had : "[" ++ (newarray.typeOf aty).toString = ad) {pc : Nat} {Ls : Array Slot} {rest : List Value} (hd : decode c.code pc = .ok (.newarray aty, 2))
    (kk : ∀ T' h' o, o = h.size → Stand p l e R s m args below meth c T' locs (cells + 1) (slots + cap) → T'.heap = h' → Ext h h' → Af Z h' o (newarray.typeOf aty) n (fun _ => defaultValue (newarray.typeOf aty)) → Exa Z h' o ad → Ends p e below P T' (mkF m (pc + 2) Ls (.ref o :: rest))) : Ends p e below P T (mkF m pc Ls (.int z :: rest)) := by
  obtain ⟨q1, q2⟩ := own_idx hz
  obtain ⟨T1, h1, cA, X1, e1, E1, A1, Ex1, st⟩ := newPE X hx hZ w eT (g := mkF m pc Ls (.int z :: rest)) rfl hd rfl q2 (cap := cap) (by rw [q1]; exact hcap) hb hc hl had
  exact Ends.by st (kk T1 h1 h.size rfl X1 e1 E1 (Af.new A1 hz hdf) Ex1)
theorem own_updL (g : Nat → Int64) (k : Nat) (x : Int64) (q : Nat) : Value.long (upd g k x q) = upd (fun q => Value.long (g q)) k (.long x) q := by
  unfold upd; split <;> rfl
theorem own_updI (g : Nat → Int32) (k : Nat) (x : Int32) (q : Nat) : Value.int (upd g k x q) = upd (fun q => Value.int (g q)) k (.int x) q := by
  unfold upd; split <;> rfl
/-- an array's clone -/
theorem Ends.clone (X : Stand p l e R s m args below meth c T locs cells slots) (hx : p.tables.exec = Jvm.exec) (hZ : Z.Warmed39 s.vm) {own ad : String} {index : Nat} (hown : s.vm.findClass own = some m.cls)
    (w1 : (Jvm.Cond.methodLink own index ⟨ad, "clone", "()Ljava/lang/Object;"⟩).before a0 Z = true) (w2 : (Jvm.Cond.sameMethod ad "java/lang/Object" "clone" "()Ljava/lang/Object;").before a0 Z = true) (w3 : (Jvm.Cond.native ⟨"java/lang/Object", "clone", "()Ljava/lang/Object;"⟩).before a0 Z = true)
    (w4 : (Jvm.Cond.instanceMethod ⟨"java/lang/Object", "clone", "()Ljava/lang/Object;"⟩).before a0 Z = true) (w5 : (Jvm.Cond.selects ad ⟨ad, "clone", "()Ljava/lang/Object;"⟩ ⟨"java/lang/Object", "clone", "()Ljava/lang/Object;"⟩).before a0 Z = true) (w6 : (Jvm.Cond.castable ad "java/lang/Cloneable").before a0 Z = true)
    (eT : T.heap = h) (F : Af Z h a ty n f) (E : Exa Z h a ad) (W : Nat) {rest : List Value} (hW : (rest.map fun v => v.category).sum ≤ W) {pc : Nat} {Ls : Array Slot} (hsize : Ls.size = c.maxLocals) (hd : decode c.code pc = .ok (.invokevirtual index, 3))
    (hf : 1 ≤ R.frames) (hl : W + 14 ≤ R.locals) (hty : refKind ty = false) (cap : Nat) (hcap : n ≤ cap) (hc : cells + 1 ≤ R.cells) (hsl : slots + cap ≤ R.slots)
    (kk : ∀ T' h' o, o = h.size → Stand p l e R s m args below meth c T' locs (cells + 1) (slots + cap) → T'.heap = h' → Ext h h' → Af Z h' o ty n f → Exa Z h' o ad → Ends p e below P T' (mkF m (pc + 3) Ls (.ref o :: rest))) : Ends p e below P T (mkF m pc Ls (.ref a :: rest)) := by
  obtain ⟨cl, A, r1, r2, r3, r4⟩ := F
  have FC : FitC Z cl := fitC_of A fun i hi v hv => by rw [r3 i (r1 ▸ hi)] at hv; cases hv; exact r4 i (r1 ▸ hi)
  obtain ⟨T1, h1, X1, e1, E1, A1, Ex1, st⟩ := cloneA X hx hZ hown w1 w2 w3 w4 w5 w6 eT A E FC (g := mkF m pc Ls (.ref a :: rest)) rfl hsize rfl hd hf (W := W) (by show 2 * 0 + _ ≤ _; omega) hl (cap := cap) (by rw [r1]; exact hcap) hc hsl
  exact Ends.by st (kk T1 h1 h.size rfl X1 e1 E1 ⟨_, A1, r1, r2, r3, r4⟩ Ex1)
theorem own_apart {C : String} (F : Exa Z h a C) (G : Af Z h b ty n f) {kk : Nat} (wi : (Jvm.Cond.instantiable C kk).before a0 Z = true) : a ≠ b := by
  obtain ⟨cl, A, -⟩ := G; exact ne_arr F wi A
end Own2
end Jvm.Pilot.@@N@@
namespace Jvm.Pilot.@@N@@
open Jvm Jvm.ClassFile Sem Op Lib Jvm.Free Jvm.Stand Jvm.LawKit Jvm.RoadKit Bundle Jvm.Pilot.@@N@@.Jvm.D
theorem own_192 (y : Int32) : (y &&& 192).toInt = y.toInt % 256 - y.toInt % 64 := by
  have e1 : (y &&& 63).toInt = y.toInt % (2 ^ 6 : Nat) := c_mask y 63 6 (by decide) (by decide)
  have e2 : (y &&& 255).toInt = y.toInt % (2 ^ 8 : Nat) := c_mask y 255 8 (by decide) (by decide)
  have e3 : ((y &&& 192) &&& 63).toInt = (y &&& 192).toInt % (2 ^ 6 : Nat) := c_mask _ 63 6 (by decide) (by decide)
  have e4 : (y &&& 192) &&& 63 = 0 := by
    rw [Int32.and_assoc]; have : (192 : Int32) &&& 63 = 0 := by decide
    rw [this, Int32.and_zero]
  have e5 : (y &&& 192) ||| (y &&& 63) = y &&& 255 := by rw [own_andor]; rfl
  have e6 := c_or (y &&& 192) (y &&& 63) 6 (by decide) 64 (by decide)
  have e7 := c_and y 192 (by decide)
  have e8 : (192 : Int32).toInt = 192 := by decide
  rw [e4] at e3
  have e9 : (0 : Int32).toInt = 0 := by decide
  rw [e5] at e6
  omega
theorem own_cont (y : Int32) : (y &&& 192) = 128 ↔ y.toInt % 256 / 64 = 2 := by
  rw [← Int32.toInt_inj, own_192]
  have : (128 : Int32).toInt = 128 := by decide
  omega
def Lead (y : Int32) : Prop := ¬ (y &&& 192) = 128
def Cont (y : Int32) : Prop := (y &&& 192) = 128
theorem own_tail (u : Int32) : Cont (((128 ||| (u &&& 63)).toInt8.toInt32).toInt8.toInt32) := by
  unfold Cont
  rw [own_cont]
  have e1 : (u &&& 63).toInt = u.toInt % (2 ^ 6 : Nat) := c_mask u 63 6 (by decide) (by decide)
  have e6 := c_or 128 (u &&& 63) 6 (by decide) 64 (by decide) (by decide) (by omega) (by omega)
  have e8 : (128 : Int32).toInt = 128 := by decide
  have r := rng32 (128 ||| (u &&& 63))
  have e3 := c_i2b (128 ||| (u &&& 63))
  have e4 := c_i2b (128 ||| (u &&& 63)).toInt8.toInt32
  omega
theorem own_lead (a u : Int32) (k : Nat) (hk : k ≤ 31) (P A : Int) (hP : P = (2 ^ k : Nat)) (hA : a.toInt = A) (h1 : A % P = 0) (h2 : 192 ≤ A) (h3 : A + P ≤ 256) (hu : 0 ≤ u.toInt ∧ u.toInt < P) : Lead (((a ||| u).toInt8.toInt32).toInt8.toInt32) := by
  unfold Lead
  rw [own_cont]
  have e6 := c_or a u k hk P hP (by rw [hA]; exact h1) hu.1 hu.2
  have r := rng32 (a ||| u)
  have e3 := c_i2b (a ||| u)
  have e4 := c_i2b (a ||| u).toInt8.toInt32
  omega
theorem own_ascii (u : Int32) : Lead (((u &&& 127).toInt8.toInt32).toInt8.toInt32) := by
  unfold Lead
  rw [own_cont]
  have e1 : (u &&& 127).toInt = u.toInt % (2 ^ 7 : Nat) := c_mask u 127 7 (by decide) (by decide)
  have e3 := c_i2b (u &&& 127)
  have e4 := c_i2b (u &&& 127).toInt8.toInt32
  omega
theorem own_l2 (cp : Int32) (h : 128 ≤ cp.toInt ∧ cp.toInt ≤ 2047) : Lead ((((192 : Int32) ||| ((cp.toUInt32 >>> ((6 : Int32) &&& 31).toUInt32).toInt32)).toInt8.toInt32).toInt8.toInt32) := by
  have e := c_iushr cp 6 6 (by decide) (by decide)
  have : ((2 ^ 6 : Nat) : Int) = 64 := by decide
  exact own_lead 192 _ 6 (by decide) 64 192 (by decide) (by decide) (by decide) (by decide) (by decide) (by omega)
theorem own_l3 (cp : Int32) (h : 2048 ≤ cp.toInt ∧ cp.toInt ≤ 65535) : Lead ((((224 : Int32) ||| ((cp.toUInt32 >>> ((12 : Int32) &&& 31).toUInt32).toInt32)).toInt8.toInt32).toInt8.toInt32) := by
  have e := c_iushr cp 12 12 (by decide) (by decide)
  have : ((2 ^ 12 : Nat) : Int) = 4096 := by decide
  exact own_lead 224 _ 5 (by decide) 32 224 (by decide) (by decide) (by decide) (by decide) (by decide) (by omega)
theorem own_l4 (cp : Int32) (h : 65536 ≤ cp.toInt ∧ cp.toInt ≤ 1114111) : Lead ((((240 : Int32) ||| ((cp.toUInt32 >>> ((18 : Int32) &&& 31).toUInt32).toInt32)).toInt8.toInt32).toInt8.toInt32) := by
  have e := c_iushr cp 18 18 (by decide) (by decide)
  have : ((2 ^ 18 : Nat) : Int) = 262144 := by decide
  exact own_lead 240 _ 4 (by decide) 16 240 (by decide) (by decide) (by decide) (by decide) (by decide) (by omega)
theorem own_c1 (u : Int32) : 128 ≤ ((128 : Int32) + (u &&& 2047) % 1920).toInt ∧ ((128 : Int32) + (u &&& 2047) % 1920).toInt ≤ 2047 := by
  have e1 : (u &&& 2047).toInt = u.toInt % (2 ^ 11 : Nat) := c_mask u 2047 11 (by decide) (by decide)
  have e2 := (c_irem (u &&& 2047) 1920 1920 (by decide)).1 (by omega)
  have e3 := c_iadd 128 ((u &&& 2047) % 1920)
  have e4 : (128 : Int32).toInt = 128 := by decide
  have r := rng32 (128 + (u &&& 2047) % 1920)
  omega
theorem own_c2 (u : Int32) : 2048 ≤ ((2048 : Int32) + (u &&& 65535) % 63488).toInt ∧ ((2048 : Int32) + (u &&& 65535) % 63488).toInt ≤ 65535 := by
  have e1 : (u &&& 65535).toInt = u.toInt % (2 ^ 16 : Nat) := c_mask u 65535 16 (by decide) (by decide)
  have e2 := (c_irem (u &&& 65535) 63488 63488 (by decide)).1 (by omega)
  have e3 := c_iadd 2048 ((u &&& 65535) % 63488)
  have e4 : (2048 : Int32).toInt = 2048 := by decide
  have r := rng32 (2048 + (u &&& 65535) % 63488)
  omega
theorem own_c2s (cp : Int32) (h1 : ¬ cp < (55296 : Int32)) (h2 : ¬ (57343 : Int32) < cp) : 2048 ≤ (cp - (2048 : Int32)).toInt ∧ (cp - (2048 : Int32)).toInt ≤ 65535 := by
  rw [Int32.lt_iff_toInt_lt] at h1 h2
  have e4 : (2048 : Int32).toInt = 2048 := by decide
  have e5 : (55296 : Int32).toInt = 55296 := by decide
  have e6 : (57343 : Int32).toInt = 57343 := by decide
  have e3 := c_isub cp 2048
  have r := rng32 (cp - 2048)
  omega
theorem own_c3 (u : Int32) : 65536 ≤ ((65536 : Int32) + (u &&& 1048575)).toInt ∧ ((65536 : Int32) + (u &&& 1048575)).toInt ≤ 1114111 := by
  have e1 : (u &&& 1048575).toInt = u.toInt % (2 ^ 20 : Nat) := c_mask u 1048575 20 (by decide) (by decide)
  have e3 := c_iadd 65536 (u &&& 1048575)
  have e4 : (65536 : Int32).toInt = 65536 := by decide
  have r := rng32 (65536 + (u &&& 1048575))
  omega
def Put (g g' : Nat → Int32) (O n : Nat) : Prop := Lead (g' O) ∧ (∀ i, O < i → i < O + n → Cont (g' i)) ∧ ∀ i, (i < O ∨ O + n ≤ i) → g' i = g i
theorem own_P1 (g : Nat → Int32) (O : Nat) {x : Int32} (hx : Lead x) : Put g (upd g O x) O 1 := by
  refine ⟨by rw [upd_hit]; exact hx, fun i h1 h2 => by omega, fun i h => by rw [upd_miss _ _ (by omega)]⟩
theorem own_PS {g g' : Nat → Int32} {O n k : Nat} {y : Int32} (P : Put g g' O n) (hk : k = O + n) (hn : 1 ≤ n) (hy : Cont y) : Put g (upd g' k y) O (n + 1) := by
  obtain ⟨p1, p2, p3⟩ := P
  refine ⟨by rw [upd_miss _ _ (by omega)]; exact p1, fun i h1 h2 => ?_, fun i h => by rw [upd_miss _ _ (by omega)]; exact p3 i (by omega)⟩
  by_cases q : i = k
  · rw [q, upd_hit]; exact hy
  · rw [upd_miss _ _ q]; exact p2 i h1 (by omega)
theorem own_off {o : Int32} {O : Nat} (ho : o.toInt = (O : Int)) (hO : O ≤ 8) (d : Int32) (k : Nat) (hd : d.toInt = (k : Int)) (hk : k < 4) : (o + d).toInt = ((O + k : Nat) : Int) := by
  have e := c_iadd o d
  have r := rng32 (o + d)
  omega
theorem d1_0 : decode method_2_code 0 = .ok (.iload_n 2, 1) := by decide +kernel
theorem d1_1 : decode method_2_code 1 = .ok (.iconst 3, 1) := by decide +kernel
theorem d1_2 : decode method_2_code 2 = .ok (.iand, 1) := by decide +kernel
theorem d1_3 : decode method_2_code 3 = .ok (.istore_n 3, 1) := by decide +kernel
theorem d1_4 : decode method_2_code 4 = .ok (.iload_n 2, 1) := by decide +kernel
theorem d1_5 : decode method_2_code 5 = .ok (.iconst 2, 1) := by decide +kernel
theorem d1_6 : decode method_2_code 6 = .ok (.iushr, 1) := by decide +kernel
theorem d1_7 : decode method_2_code 7 = .ok (.istore 4, 2) := by decide +kernel
theorem d1_9 : decode method_2_code 9 = .ok (.iload_n 3, 1) := by decide +kernel
theorem d1_10 : decode method_2_code 10 = .ok (.ifCond .ne 14, 3) := by decide +kernel
theorem d1_13 : decode method_2_code 13 = .ok (.aload_n 0, 1) := by decide +kernel
theorem d1_14 : decode method_2_code 14 = .ok (.iload_n 1, 1) := by decide +kernel
theorem d1_15 : decode method_2_code 15 = .ok (.iload 4, 2) := by decide +kernel
theorem d1_17 : decode method_2_code 17 = .ok (.bipush 127, 2) := by decide +kernel
theorem d1_19 : decode method_2_code 19 = .ok (.iand, 1) := by decide +kernel
theorem d1_20 : decode method_2_code 20 = .ok (.i2b, 1) := by decide +kernel
theorem d1_21 : decode method_2_code 21 = .ok (.bastore, 1) := by decide +kernel
theorem d1_22 : decode method_2_code 22 = .ok (.iconst 1, 1) := by decide +kernel
theorem d1_23 : decode method_2_code 23 = .ok (.ireturn, 1) := by decide +kernel
theorem d1_24 : decode method_2_code 24 = .ok (.iload_n 3, 1) := by decide +kernel
theorem d1_25 : decode method_2_code 25 = .ok (.iconst 1, 1) := by decide +kernel
theorem d1_26 : decode method_2_code 26 = .ok (.if_icmp .ne 49, 3) := by decide +kernel
theorem d1_29 : decode method_2_code 29 = .ok (.sipush 128, 3) := by decide +kernel
theorem d1_32 : decode method_2_code 32 = .ok (.iload 4, 2) := by decide +kernel
theorem d1_34 : decode method_2_code 34 = .ok (.sipush 2047, 3) := by decide +kernel
theorem d1_37 : decode method_2_code 37 = .ok (.iand, 1) := by decide +kernel
theorem d1_38 : decode method_2_code 38 = .ok (.sipush 1920, 3) := by decide +kernel
theorem d1_41 : decode method_2_code 41 = .ok (.irem, 1) := by decide +kernel
theorem d1_42 : decode method_2_code 42 = .ok (.iadd, 1) := by decide +kernel
theorem d1_43 : decode method_2_code 43 = .ok (.istore 5, 2) := by decide +kernel
theorem d1_45 : decode method_2_code 45 = .ok (.aload_n 0, 1) := by decide +kernel
theorem d1_46 : decode method_2_code 46 = .ok (.iload_n 1, 1) := by decide +kernel
theorem d1_47 : decode method_2_code 47 = .ok (.sipush 192, 3) := by decide +kernel
theorem d1_50 : decode method_2_code 50 = .ok (.iload 5, 2) := by decide +kernel
theorem d1_52 : decode method_2_code 52 = .ok (.bipush 6, 2) := by decide +kernel
theorem d1_54 : decode method_2_code 54 = .ok (.iushr, 1) := by decide +kernel
theorem d1_55 : decode method_2_code 55 = .ok (.ior, 1) := by decide +kernel
theorem d1_56 : decode method_2_code 56 = .ok (.i2b, 1) := by decide +kernel
theorem d1_57 : decode method_2_code 57 = .ok (.bastore, 1) := by decide +kernel
theorem d1_58 : decode method_2_code 58 = .ok (.aload_n 0, 1) := by decide +kernel
theorem d1_59 : decode method_2_code 59 = .ok (.iload_n 1, 1) := by decide +kernel
theorem d1_60 : decode method_2_code 60 = .ok (.iconst 1, 1) := by decide +kernel
theorem d1_61 : decode method_2_code 61 = .ok (.iadd, 1) := by decide +kernel
theorem d1_62 : decode method_2_code 62 = .ok (.sipush 128, 3) := by decide +kernel
theorem d1_65 : decode method_2_code 65 = .ok (.iload 5, 2) := by decide +kernel
theorem d1_67 : decode method_2_code 67 = .ok (.bipush 63, 2) := by decide +kernel
theorem d1_69 : decode method_2_code 69 = .ok (.iand, 1) := by decide +kernel
theorem d1_70 : decode method_2_code 70 = .ok (.ior, 1) := by decide +kernel
theorem d1_71 : decode method_2_code 71 = .ok (.i2b, 1) := by decide +kernel
theorem d1_72 : decode method_2_code 72 = .ok (.bastore, 1) := by decide +kernel
theorem d1_73 : decode method_2_code 73 = .ok (.iconst 2, 1) := by decide +kernel
theorem d1_74 : decode method_2_code 74 = .ok (.ireturn, 1) := by decide +kernel
theorem d1_75 : decode method_2_code 75 = .ok (.iload_n 3, 1) := by decide +kernel
theorem d1_76 : decode method_2_code 76 = .ok (.iconst 2, 1) := by decide +kernel
theorem d1_77 : decode method_2_code 77 = .ok (.if_icmp .ne 87, 3) := by decide +kernel
theorem d1_80 : decode method_2_code 80 = .ok (.sipush 2048, 3) := by decide +kernel
theorem d1_83 : decode method_2_code 83 = .ok (.iload 4, 2) := by decide +kernel
theorem d1_85 : decode method_2_code 85 = .ok (.ldc 7, 2) := by decide +kernel
theorem d1_87 : decode method_2_code 87 = .ok (.iand, 1) := by decide +kernel
theorem d1_88 : decode method_2_code 88 = .ok (.ldc 8, 2) := by decide +kernel
theorem d1_90 : decode method_2_code 90 = .ok (.irem, 1) := by decide +kernel
theorem d1_91 : decode method_2_code 91 = .ok (.iadd, 1) := by decide +kernel
theorem d1_92 : decode method_2_code 92 = .ok (.istore 5, 2) := by decide +kernel
theorem d1_94 : decode method_2_code 94 = .ok (.iload 5, 2) := by decide +kernel
theorem d1_96 : decode method_2_code 96 = .ok (.ldc 9, 2) := by decide +kernel
theorem d1_98 : decode method_2_code 98 = .ok (.if_icmp .lt 18, 3) := by decide +kernel
theorem d1_101 : decode method_2_code 101 = .ok (.iload 5, 2) := by decide +kernel
theorem d1_103 : decode method_2_code 103 = .ok (.ldc 10, 2) := by decide +kernel
theorem d1_105 : decode method_2_code 105 = .ok (.if_icmp .gt 11, 3) := by decide +kernel
theorem d1_108 : decode method_2_code 108 = .ok (.iload 5, 2) := by decide +kernel
theorem d1_110 : decode method_2_code 110 = .ok (.sipush 2048, 3) := by decide +kernel
theorem d1_113 : decode method_2_code 113 = .ok (.isub, 1) := by decide +kernel
theorem d1_114 : decode method_2_code 114 = .ok (.istore 5, 2) := by decide +kernel
theorem d1_116 : decode method_2_code 116 = .ok (.aload_n 0, 1) := by decide +kernel
theorem d1_117 : decode method_2_code 117 = .ok (.iload_n 1, 1) := by decide +kernel
theorem d1_118 : decode method_2_code 118 = .ok (.sipush 224, 3) := by decide +kernel
theorem d1_121 : decode method_2_code 121 = .ok (.iload 5, 2) := by decide +kernel
theorem d1_123 : decode method_2_code 123 = .ok (.bipush 12, 2) := by decide +kernel
theorem d1_125 : decode method_2_code 125 = .ok (.iushr, 1) := by decide +kernel
theorem d1_126 : decode method_2_code 126 = .ok (.ior, 1) := by decide +kernel
theorem d1_127 : decode method_2_code 127 = .ok (.i2b, 1) := by decide +kernel
theorem d1_128 : decode method_2_code 128 = .ok (.bastore, 1) := by decide +kernel
theorem d1_129 : decode method_2_code 129 = .ok (.aload_n 0, 1) := by decide +kernel
theorem d1_130 : decode method_2_code 130 = .ok (.iload_n 1, 1) := by decide +kernel
theorem d1_131 : decode method_2_code 131 = .ok (.iconst 1, 1) := by decide +kernel
theorem d1_132 : decode method_2_code 132 = .ok (.iadd, 1) := by decide +kernel
theorem d1_133 : decode method_2_code 133 = .ok (.sipush 128, 3) := by decide +kernel
theorem d1_136 : decode method_2_code 136 = .ok (.iload 5, 2) := by decide +kernel
theorem d1_138 : decode method_2_code 138 = .ok (.bipush 6, 2) := by decide +kernel
theorem d1_140 : decode method_2_code 140 = .ok (.iushr, 1) := by decide +kernel
theorem d1_141 : decode method_2_code 141 = .ok (.bipush 63, 2) := by decide +kernel
theorem d1_143 : decode method_2_code 143 = .ok (.iand, 1) := by decide +kernel
theorem d1_144 : decode method_2_code 144 = .ok (.ior, 1) := by decide +kernel
theorem d1_145 : decode method_2_code 145 = .ok (.i2b, 1) := by decide +kernel
theorem d1_146 : decode method_2_code 146 = .ok (.bastore, 1) := by decide +kernel
theorem d1_147 : decode method_2_code 147 = .ok (.aload_n 0, 1) := by decide +kernel
theorem d1_148 : decode method_2_code 148 = .ok (.iload_n 1, 1) := by decide +kernel
theorem d1_149 : decode method_2_code 149 = .ok (.iconst 2, 1) := by decide +kernel
theorem d1_150 : decode method_2_code 150 = .ok (.iadd, 1) := by decide +kernel
theorem d1_151 : decode method_2_code 151 = .ok (.sipush 128, 3) := by decide +kernel
theorem d1_154 : decode method_2_code 154 = .ok (.iload 5, 2) := by decide +kernel
theorem d1_156 : decode method_2_code 156 = .ok (.bipush 63, 2) := by decide +kernel
theorem d1_158 : decode method_2_code 158 = .ok (.iand, 1) := by decide +kernel
theorem d1_159 : decode method_2_code 159 = .ok (.ior, 1) := by decide +kernel
theorem d1_160 : decode method_2_code 160 = .ok (.i2b, 1) := by decide +kernel
theorem d1_161 : decode method_2_code 161 = .ok (.bastore, 1) := by decide +kernel
theorem d1_162 : decode method_2_code 162 = .ok (.iconst 3, 1) := by decide +kernel
theorem d1_163 : decode method_2_code 163 = .ok (.ireturn, 1) := by decide +kernel
theorem d1_164 : decode method_2_code 164 = .ok (.ldc 11, 2) := by decide +kernel
theorem d1_166 : decode method_2_code 166 = .ok (.iload 4, 2) := by decide +kernel
theorem d1_168 : decode method_2_code 168 = .ok (.ldc 12, 2) := by decide +kernel
theorem d1_170 : decode method_2_code 170 = .ok (.iand, 1) := by decide +kernel
theorem d1_171 : decode method_2_code 171 = .ok (.iadd, 1) := by decide +kernel
theorem d1_172 : decode method_2_code 172 = .ok (.istore 5, 2) := by decide +kernel
theorem d1_174 : decode method_2_code 174 = .ok (.aload_n 0, 1) := by decide +kernel
theorem d1_175 : decode method_2_code 175 = .ok (.iload_n 1, 1) := by decide +kernel
theorem d1_176 : decode method_2_code 176 = .ok (.sipush 240, 3) := by decide +kernel
theorem d1_179 : decode method_2_code 179 = .ok (.iload 5, 2) := by decide +kernel
theorem d1_181 : decode method_2_code 181 = .ok (.bipush 18, 2) := by decide +kernel
theorem d1_183 : decode method_2_code 183 = .ok (.iushr, 1) := by decide +kernel
theorem d1_184 : decode method_2_code 184 = .ok (.ior, 1) := by decide +kernel
theorem d1_185 : decode method_2_code 185 = .ok (.i2b, 1) := by decide +kernel
theorem d1_186 : decode method_2_code 186 = .ok (.bastore, 1) := by decide +kernel
theorem d1_187 : decode method_2_code 187 = .ok (.aload_n 0, 1) := by decide +kernel
theorem d1_188 : decode method_2_code 188 = .ok (.iload_n 1, 1) := by decide +kernel
theorem d1_189 : decode method_2_code 189 = .ok (.iconst 1, 1) := by decide +kernel
theorem d1_190 : decode method_2_code 190 = .ok (.iadd, 1) := by decide +kernel
theorem d1_191 : decode method_2_code 191 = .ok (.sipush 128, 3) := by decide +kernel
theorem d1_194 : decode method_2_code 194 = .ok (.iload 5, 2) := by decide +kernel
theorem d1_196 : decode method_2_code 196 = .ok (.bipush 12, 2) := by decide +kernel
theorem d1_198 : decode method_2_code 198 = .ok (.iushr, 1) := by decide +kernel
theorem d1_199 : decode method_2_code 199 = .ok (.bipush 63, 2) := by decide +kernel
theorem d1_201 : decode method_2_code 201 = .ok (.iand, 1) := by decide +kernel
theorem d1_202 : decode method_2_code 202 = .ok (.ior, 1) := by decide +kernel
theorem d1_203 : decode method_2_code 203 = .ok (.i2b, 1) := by decide +kernel
theorem d1_204 : decode method_2_code 204 = .ok (.bastore, 1) := by decide +kernel
theorem d1_205 : decode method_2_code 205 = .ok (.aload_n 0, 1) := by decide +kernel
theorem d1_206 : decode method_2_code 206 = .ok (.iload_n 1, 1) := by decide +kernel
theorem d1_207 : decode method_2_code 207 = .ok (.iconst 2, 1) := by decide +kernel
theorem d1_208 : decode method_2_code 208 = .ok (.iadd, 1) := by decide +kernel
theorem d1_209 : decode method_2_code 209 = .ok (.sipush 128, 3) := by decide +kernel
theorem d1_212 : decode method_2_code 212 = .ok (.iload 5, 2) := by decide +kernel
theorem d1_214 : decode method_2_code 214 = .ok (.bipush 6, 2) := by decide +kernel
theorem d1_216 : decode method_2_code 216 = .ok (.iushr, 1) := by decide +kernel
theorem d1_217 : decode method_2_code 217 = .ok (.bipush 63, 2) := by decide +kernel
theorem d1_219 : decode method_2_code 219 = .ok (.iand, 1) := by decide +kernel
theorem d1_220 : decode method_2_code 220 = .ok (.ior, 1) := by decide +kernel
theorem d1_221 : decode method_2_code 221 = .ok (.i2b, 1) := by decide +kernel
theorem d1_222 : decode method_2_code 222 = .ok (.bastore, 1) := by decide +kernel
theorem d1_223 : decode method_2_code 223 = .ok (.aload_n 0, 1) := by decide +kernel
theorem d1_224 : decode method_2_code 224 = .ok (.iload_n 1, 1) := by decide +kernel
theorem d1_225 : decode method_2_code 225 = .ok (.iconst 3, 1) := by decide +kernel
theorem d1_226 : decode method_2_code 226 = .ok (.iadd, 1) := by decide +kernel
theorem d1_227 : decode method_2_code 227 = .ok (.sipush 128, 3) := by decide +kernel
theorem d1_230 : decode method_2_code 230 = .ok (.iload 5, 2) := by decide +kernel
theorem d1_232 : decode method_2_code 232 = .ok (.bipush 63, 2) := by decide +kernel
theorem d1_234 : decode method_2_code 234 = .ok (.iand, 1) := by decide +kernel
theorem d1_235 : decode method_2_code 235 = .ok (.ior, 1) := by decide +kernel
theorem d1_236 : decode method_2_code 236 = .ok (.i2b, 1) := by decide +kernel
theorem d1_237 : decode method_2_code 237 = .ok (.bastore, 1) := by decide +kernel
theorem d1_238 : decode method_2_code 238 = .ok (.iconst 4, 1) := by decide +kernel
theorem d1_239 : decode method_2_code 239 = .ok (.ireturn, 1) := by decide +kernel
theorem pd_1 : parseMethodDescriptor "([BII)I" = some ⟨[(.array .byte), .int, .int], some .int⟩ := by decide +kernel
theorem pf_1 : plainFor (⟨"com/example/vedette/vedette/records/Utf8WellFormedPartPinLaw", "put", "([BII)I"⟩ : MethodName) = true := plainFor_of_name (by first | (simp [plainName, overriddenIn, x]; done) | decide +kernel)
theorem ef_1 (m : MethodId) (ar : Addr) (at1 : Int32) (ch : Int32) : entryFrame m #[(.ref ar), (.int at1), (.int ch)] 6 = mkF m 0 #[.val (.ref ar), .val (.int at1), .val (.int ch), .unset, .unset, .unset] [] := by first | (simp [entryFrame, mkF, argsToLocals, Value.category]; done) | rfl
set_option maxRecDepth 65536 in
set_option maxHeartbeats 40000000 in
theorem con_1 (l : Launch) (Z : State) (a0 : Array Value) (hw : ∀ d ∈ tables_1, d.before a0 Z = true) (ar : Addr) (at1 : Int32) (ch : Int32) (O : Nat) (g : Nat → Int32) (h0 : Heap) (n0 : Nat) (Z0 : n0 ≤ h0.size) (A0 : Af Z h0 ar .byte 12 (fun q => .int (g q))) (ho : at1.toInt = (O : Int)) (hO : O ≤ 8) (gar : n0 ≤ ar) : Con l Z (⟨"com/example/vedette/vedette/records/Utf8WellFormedPartPinLaw", "put", "([BII)I"⟩ : MethodName) method_2_code 6 (some .int) ({ frames := 0, cells := 0, slots := 0, locals := 0 } : Room) #[(.ref ar), (.int at1), (.int ch)] h0 (fun v h L => ∃ (n : Nat) (g' : Nat → Int32) (z : Int32), v = some (.int z) ∧ z.toInt = (n : Int) ∧ 1 ≤ n ∧ n ≤ 4 ∧ Fr n0 L ∧ Keep h0 h [ar] ∧ Af Z h ar .byte 12 (fun q => .int (g' q)) ∧ Put g g' O n) := by
  refine Con.intro pf_1 ?_
  intro p e s m below meth c s₁ hx hby hml hown hnm hret hlk hZ X0 e0
  refine Ends.cast (ef_1 m ar at1 ch) ?_
  have N0 := Fr.nil n0
  have K0 : Keep h0 h0 [ar] := Keep.refl _ _
  refine Ends.by (fun _ => XS.iloadN X0.here hx rfl (hb hby d1_0) rfl) ?_
  show Ends p e below _ s₁ (mkF m 1 #[.val (.ref ar), .val (.int at1), .val (.int ch), .unset, .unset, .unset] [(.int ch)])
  refine Ends.by (fun _ => XS.iconst X0.here hx rfl (hb hby d1_1)) ?_
  show Ends p e below _ s₁ (mkF m 2 #[.val (.ref ar), .val (.int at1), .val (.int ch), .unset, .unset, .unset] [(.int (3 : Int32)), (.int ch)])
  refine Ends.by (fun _ => XS.iand X0.here hx rfl (hb hby d1_2) rfl) ?_
  show Ends p e below _ s₁ (mkF m 3 #[.val (.ref ar), .val (.int at1), .val (.int ch), .unset, .unset, .unset] [(.int (ch &&& (3 : Int32)))])
  refine Ends.by (fun _ => XS.istoreN X0.here hx rfl (hb hby d1_3) rfl (l' := #[.val (.ref ar), .val (.int at1), .val (.int ch), .val (.int (ch &&& (3 : Int32))), .unset, .unset]) rfl) ?_
  show Ends p e below _ s₁ (mkF m 4 #[.val (.ref ar), .val (.int at1), .val (.int ch), .val (.int (ch &&& (3 : Int32))), .unset, .unset] [])
  refine Ends.by (fun _ => XS.iloadN X0.here hx rfl (hb hby d1_4) rfl) ?_
  show Ends p e below _ s₁ (mkF m 5 #[.val (.ref ar), .val (.int at1), .val (.int ch), .val (.int (ch &&& (3 : Int32))), .unset, .unset] [(.int ch)])
  refine Ends.by (fun _ => XS.iconst X0.here hx rfl (hb hby d1_5)) ?_
  show Ends p e below _ s₁ (mkF m 6 #[.val (.ref ar), .val (.int at1), .val (.int ch), .val (.int (ch &&& (3 : Int32))), .unset, .unset] [(.int (2 : Int32)), (.int ch)])
  refine Ends.by (fun _ => XS.iushr X0.here hx rfl (hb hby d1_6) rfl) ?_
  show Ends p e below _ s₁ (mkF m 7 #[.val (.ref ar), .val (.int at1), .val (.int ch), .val (.int (ch &&& (3 : Int32))), .unset, .unset] [(.int ((ch.toUInt32 >>> ((2 : Int32) &&& 31).toUInt32).toInt32))])
  refine Ends.by (fun _ => XS.istore X0.here hx rfl (hb hby d1_7) rfl (l' := #[.val (.ref ar), .val (.int at1), .val (.int ch), .val (.int (ch &&& (3 : Int32))), .val (.int ((ch.toUInt32 >>> ((2 : Int32) &&& 31).toUInt32).toInt32)), .unset]) rfl) ?_
  show Ends p e below _ s₁ (mkF m 9 #[.val (.ref ar), .val (.int at1), .val (.int ch), .val (.int (ch &&& (3 : Int32))), .val (.int ((ch.toUInt32 >>> ((2 : Int32) &&& 31).toUInt32).toInt32)), .unset] [])
  generalize ((ch.toUInt32 >>> ((2 : Int32) &&& 31).toUInt32).toInt32) = vv
  show Ends p e below _ s₁ (mkF m 9 #[.val (.ref ar), .val (.int at1), .val (.int ch), .val (.int (ch &&& (3 : Int32))), .val (.int vv), .unset] [])
  refine Ends.by (fun _ => XS.iloadN X0.here hx rfl (hb hby d1_9) rfl) ?_
  show Ends p e below _ s₁ (mkF m 10 #[.val (.ref ar), .val (.int at1), .val (.int ch), .val (.int (ch &&& (3 : Int32))), .val (.int vv), .unset] [(.int (ch &&& (3 : Int32)))])
  refine Ends.ifc X0 hx (hb hby d1_10) 24 (by decide) (by decide) (fun q => ?_) (fun q => ?_)
  · have c10 : ¬ ((ch &&& (3 : Int32)) = (0 : Int32)) := own_ne.1 q
    show Ends p e below _ s₁ (mkF m 24 #[.val (.ref ar), .val (.int at1), .val (.int ch), .val (.int (ch &&& (3 : Int32))), .val (.int vv), .unset] [])
    refine Ends.by (fun _ => XS.iloadN X0.here hx rfl (hb hby d1_24) rfl) ?_
    show Ends p e below _ s₁ (mkF m 25 #[.val (.ref ar), .val (.int at1), .val (.int ch), .val (.int (ch &&& (3 : Int32))), .val (.int vv), .unset] [(.int (ch &&& (3 : Int32)))])
    refine Ends.by (fun _ => XS.iconst X0.here hx rfl (hb hby d1_25)) ?_
    show Ends p e below _ s₁ (mkF m 26 #[.val (.ref ar), .val (.int at1), .val (.int ch), .val (.int (ch &&& (3 : Int32))), .val (.int vv), .unset] [(.int (1 : Int32)), (.int (ch &&& (3 : Int32)))])
    refine Ends.icmp X0 hx (hb hby d1_26) 75 (by decide) (by decide) (fun q => ?_) (fun q => ?_)
    · have c26 : ¬ ((ch &&& (3 : Int32)) = (1 : Int32)) := own_ne.1 q
      show Ends p e below _ s₁ (mkF m 75 #[.val (.ref ar), .val (.int at1), .val (.int ch), .val (.int (ch &&& (3 : Int32))), .val (.int vv), .unset] [])
      refine Ends.by (fun _ => XS.iloadN X0.here hx rfl (hb hby d1_75) rfl) ?_
      show Ends p e below _ s₁ (mkF m 76 #[.val (.ref ar), .val (.int at1), .val (.int ch), .val (.int (ch &&& (3 : Int32))), .val (.int vv), .unset] [(.int (ch &&& (3 : Int32)))])
      refine Ends.by (fun _ => XS.iconst X0.here hx rfl (hb hby d1_76)) ?_
      show Ends p e below _ s₁ (mkF m 77 #[.val (.ref ar), .val (.int at1), .val (.int ch), .val (.int (ch &&& (3 : Int32))), .val (.int vv), .unset] [(.int (2 : Int32)), (.int (ch &&& (3 : Int32)))])
      refine Ends.icmp X0 hx (hb hby d1_77) 164 (by decide) (by decide) (fun q => ?_) (fun q => ?_)
      · have c77 : ¬ ((ch &&& (3 : Int32)) = (2 : Int32)) := own_ne.1 q
        show Ends p e below _ s₁ (mkF m 164 #[.val (.ref ar), .val (.int at1), .val (.int ch), .val (.int (ch &&& (3 : Int32))), .val (.int vv), .unset] [])
        refine Ends.by (X0.ldcInt hx hown (mvT hZ (hw _ (List.mem_of_getElem? (i := 5) rfl))) (g := (mkF m 164 #[.val (.ref ar), .val (.int at1), .val (.int ch), .val (.int (ch &&& (3 : Int32))), .val (.int vv), .unset] [])) rfl (hb hby d1_164)) ?_
        show Ends p e below _ s₁ (mkF m 166 #[.val (.ref ar), .val (.int at1), .val (.int ch), .val (.int (ch &&& (3 : Int32))), .val (.int vv), .unset] [(.int (65536 : Int32))])
        refine Ends.by (fun _ => XS.iload X0.here hx rfl (hb hby d1_166) rfl) ?_
        show Ends p e below _ s₁ (mkF m 168 #[.val (.ref ar), .val (.int at1), .val (.int ch), .val (.int (ch &&& (3 : Int32))), .val (.int vv), .unset] [(.int vv), (.int (65536 : Int32))])
        refine Ends.by (X0.ldcInt hx hown (mvT hZ (hw _ (List.mem_of_getElem? (i := 6) rfl))) (g := (mkF m 168 #[.val (.ref ar), .val (.int at1), .val (.int ch), .val (.int (ch &&& (3 : Int32))), .val (.int vv), .unset] [(.int vv), (.int (65536 : Int32))])) rfl (hb hby d1_168)) ?_
        show Ends p e below _ s₁ (mkF m 170 #[.val (.ref ar), .val (.int at1), .val (.int ch), .val (.int (ch &&& (3 : Int32))), .val (.int vv), .unset] [(.int (1048575 : Int32)), (.int vv), (.int (65536 : Int32))])
        refine Ends.by (fun _ => XS.iand X0.here hx rfl (hb hby d1_170) rfl) ?_
        show Ends p e below _ s₁ (mkF m 171 #[.val (.ref ar), .val (.int at1), .val (.int ch), .val (.int (ch &&& (3 : Int32))), .val (.int vv), .unset] [(.int (vv &&& (1048575 : Int32))), (.int (65536 : Int32))])
        refine Ends.by (fun _ => XS.iadd X0.here hx rfl (hb hby d1_171) rfl) ?_
        show Ends p e below _ s₁ (mkF m 172 #[.val (.ref ar), .val (.int at1), .val (.int ch), .val (.int (ch &&& (3 : Int32))), .val (.int vv), .unset] [(.int ((65536 : Int32) + (vv &&& (1048575 : Int32))))])
        refine Ends.by (fun _ => XS.istore X0.here hx rfl (hb hby d1_172) rfl (l' := #[.val (.ref ar), .val (.int at1), .val (.int ch), .val (.int (ch &&& (3 : Int32))), .val (.int vv), .val (.int ((65536 : Int32) + (vv &&& (1048575 : Int32))))]) rfl) ?_
        show Ends p e below _ s₁ (mkF m 174 #[.val (.ref ar), .val (.int at1), .val (.int ch), .val (.int (ch &&& (3 : Int32))), .val (.int vv), .val (.int ((65536 : Int32) + (vv &&& (1048575 : Int32))))] [])
        have hcp := own_c3 vv
        generalize ((65536 : Int32) + (vv &&& (1048575 : Int32))) = cp at hcp ⊢
        show Ends p e below _ s₁ (mkF m 174 #[.val (.ref ar), .val (.int at1), .val (.int ch), .val (.int (ch &&& (3 : Int32))), .val (.int vv), .val (.int cp)] [])
        refine Ends.by (fun _ => XS.aloadN X0.here hx rfl (hb hby d1_174) rfl rfl) ?_
        show Ends p e below _ s₁ (mkF m 175 #[.val (.ref ar), .val (.int at1), .val (.int ch), .val (.int (ch &&& (3 : Int32))), .val (.int vv), .val (.int cp)] [(.ref ar)])
        refine Ends.by (fun _ => XS.iloadN X0.here hx rfl (hb hby d1_175) rfl) ?_
        show Ends p e below _ s₁ (mkF m 176 #[.val (.ref ar), .val (.int at1), .val (.int ch), .val (.int (ch &&& (3 : Int32))), .val (.int vv), .val (.int cp)] [(.int at1), (.ref ar)])
        refine Ends.by (fun _ => XS.sipush X0.here hx rfl (hb hby d1_176)) ?_
        show Ends p e below _ s₁ (mkF m 179 #[.val (.ref ar), .val (.int at1), .val (.int ch), .val (.int (ch &&& (3 : Int32))), .val (.int vv), .val (.int cp)] [(.int (240 : Int32)), (.int at1), (.ref ar)])
        refine Ends.by (fun _ => XS.iload X0.here hx rfl (hb hby d1_179) rfl) ?_
        show Ends p e below _ s₁ (mkF m 181 #[.val (.ref ar), .val (.int at1), .val (.int ch), .val (.int (ch &&& (3 : Int32))), .val (.int vv), .val (.int cp)] [(.int cp), (.int (240 : Int32)), (.int at1), (.ref ar)])
        refine Ends.by (fun _ => XS.bipush X0.here hx rfl (hb hby d1_181)) ?_
        show Ends p e below _ s₁ (mkF m 183 #[.val (.ref ar), .val (.int at1), .val (.int ch), .val (.int (ch &&& (3 : Int32))), .val (.int vv), .val (.int cp)] [(.int (18 : Int32)), (.int cp), (.int (240 : Int32)), (.int at1), (.ref ar)])
        refine Ends.by (fun _ => XS.iushr X0.here hx rfl (hb hby d1_183) rfl) ?_
        show Ends p e below _ s₁ (mkF m 184 #[.val (.ref ar), .val (.int at1), .val (.int ch), .val (.int (ch &&& (3 : Int32))), .val (.int vv), .val (.int cp)] [(.int ((cp.toUInt32 >>> ((18 : Int32) &&& 31).toUInt32).toInt32)), (.int (240 : Int32)), (.int at1), (.ref ar)])
        refine Ends.by (fun _ => XS.ior X0.here hx rfl (hb hby d1_184) rfl) ?_
        show Ends p e below _ s₁ (mkF m 185 #[.val (.ref ar), .val (.int at1), .val (.int ch), .val (.int (ch &&& (3 : Int32))), .val (.int vv), .val (.int cp)] [(.int ((240 : Int32) ||| ((cp.toUInt32 >>> ((18 : Int32) &&& 31).toUInt32).toInt32))), (.int at1), (.ref ar)])
        refine Ends.by (fun _ => XS.i2b X0.here hx rfl (hb hby d1_185) rfl) ?_
        show Ends p e below _ s₁ (mkF m 186 #[.val (.ref ar), .val (.int at1), .val (.int ch), .val (.int (ch &&& (3 : Int32))), .val (.int vv), .val (.int cp)] [(.int (((240 : Int32) ||| ((cp.toUInt32 >>> ((18 : Int32) &&& 31).toUInt32).toInt32)).toInt8.toInt32)), (.int at1), (.ref ar)])
        refine Ends.stB X0 hx hZ e0 N0 gar A0 (k := O) ho (by omega) (hb hby d1_186) ?_
        intro T1 h1 L1 X1 e1 N1 W1 B1
        have C1 : Af Z h1 ar .byte 12 (fun q => .int ((upd g O ((((240 : Int32) ||| ((cp.toUInt32 >>> ((18 : Int32) &&& 31).toUInt32).toInt32)).toInt8.toInt32)).toInt8.toInt32) q)) := B1.congr (fun q _ => own_updI g O _ q)
        have Z1 : n0 ≤ h1.size := Nat.le_trans Z0 (Nat.le_of_eq W1.size.symm)
        have K1 : Keep h0 h1 [ar] := K0.wr W1 (Or.inl (List.mem_of_getElem? (i := 0) rfl))
        show Ends p e below _ T1 (mkF m 187 #[.val (.ref ar), .val (.int at1), .val (.int ch), .val (.int (ch &&& (3 : Int32))), .val (.int vv), .val (.int cp)] [])
        refine Ends.by (fun _ => XS.aloadN X1.here hx rfl (hb hby d1_187) rfl rfl) ?_
        show Ends p e below _ T1 (mkF m 188 #[.val (.ref ar), .val (.int at1), .val (.int ch), .val (.int (ch &&& (3 : Int32))), .val (.int vv), .val (.int cp)] [(.ref ar)])
        refine Ends.by (fun _ => XS.iloadN X1.here hx rfl (hb hby d1_188) rfl) ?_
        show Ends p e below _ T1 (mkF m 189 #[.val (.ref ar), .val (.int at1), .val (.int ch), .val (.int (ch &&& (3 : Int32))), .val (.int vv), .val (.int cp)] [(.int at1), (.ref ar)])
        refine Ends.by (fun _ => XS.iconst X1.here hx rfl (hb hby d1_189)) ?_
        show Ends p e below _ T1 (mkF m 190 #[.val (.ref ar), .val (.int at1), .val (.int ch), .val (.int (ch &&& (3 : Int32))), .val (.int vv), .val (.int cp)] [(.int (1 : Int32)), (.int at1), (.ref ar)])
        refine Ends.by (fun _ => XS.iadd X1.here hx rfl (hb hby d1_190) rfl) ?_
        show Ends p e below _ T1 (mkF m 191 #[.val (.ref ar), .val (.int at1), .val (.int ch), .val (.int (ch &&& (3 : Int32))), .val (.int vv), .val (.int cp)] [(.int (at1 + (1 : Int32))), (.ref ar)])
        refine Ends.by (fun _ => XS.sipush X1.here hx rfl (hb hby d1_191)) ?_
        show Ends p e below _ T1 (mkF m 194 #[.val (.ref ar), .val (.int at1), .val (.int ch), .val (.int (ch &&& (3 : Int32))), .val (.int vv), .val (.int cp)] [(.int (128 : Int32)), (.int (at1 + (1 : Int32))), (.ref ar)])
        refine Ends.by (fun _ => XS.iload X1.here hx rfl (hb hby d1_194) rfl) ?_
        show Ends p e below _ T1 (mkF m 196 #[.val (.ref ar), .val (.int at1), .val (.int ch), .val (.int (ch &&& (3 : Int32))), .val (.int vv), .val (.int cp)] [(.int cp), (.int (128 : Int32)), (.int (at1 + (1 : Int32))), (.ref ar)])
        refine Ends.by (fun _ => XS.bipush X1.here hx rfl (hb hby d1_196)) ?_
        show Ends p e below _ T1 (mkF m 198 #[.val (.ref ar), .val (.int at1), .val (.int ch), .val (.int (ch &&& (3 : Int32))), .val (.int vv), .val (.int cp)] [(.int (12 : Int32)), (.int cp), (.int (128 : Int32)), (.int (at1 + (1 : Int32))), (.ref ar)])
        refine Ends.by (fun _ => XS.iushr X1.here hx rfl (hb hby d1_198) rfl) ?_
        show Ends p e below _ T1 (mkF m 199 #[.val (.ref ar), .val (.int at1), .val (.int ch), .val (.int (ch &&& (3 : Int32))), .val (.int vv), .val (.int cp)] [(.int ((cp.toUInt32 >>> ((12 : Int32) &&& 31).toUInt32).toInt32)), (.int (128 : Int32)), (.int (at1 + (1 : Int32))), (.ref ar)])
        refine Ends.by (fun _ => XS.bipush X1.here hx rfl (hb hby d1_199)) ?_
        show Ends p e below _ T1 (mkF m 201 #[.val (.ref ar), .val (.int at1), .val (.int ch), .val (.int (ch &&& (3 : Int32))), .val (.int vv), .val (.int cp)] [(.int (63 : Int32)), (.int ((cp.toUInt32 >>> ((12 : Int32) &&& 31).toUInt32).toInt32)), (.int (128 : Int32)), (.int (at1 + (1 : Int32))), (.ref ar)])
        refine Ends.by (fun _ => XS.iand X1.here hx rfl (hb hby d1_201) rfl) ?_
        show Ends p e below _ T1 (mkF m 202 #[.val (.ref ar), .val (.int at1), .val (.int ch), .val (.int (ch &&& (3 : Int32))), .val (.int vv), .val (.int cp)] [(.int (((cp.toUInt32 >>> ((12 : Int32) &&& 31).toUInt32).toInt32) &&& (63 : Int32))), (.int (128 : Int32)), (.int (at1 + (1 : Int32))), (.ref ar)])
        refine Ends.by (fun _ => XS.ior X1.here hx rfl (hb hby d1_202) rfl) ?_
        show Ends p e below _ T1 (mkF m 203 #[.val (.ref ar), .val (.int at1), .val (.int ch), .val (.int (ch &&& (3 : Int32))), .val (.int vv), .val (.int cp)] [(.int ((128 : Int32) ||| (((cp.toUInt32 >>> ((12 : Int32) &&& 31).toUInt32).toInt32) &&& (63 : Int32)))), (.int (at1 + (1 : Int32))), (.ref ar)])
        refine Ends.by (fun _ => XS.i2b X1.here hx rfl (hb hby d1_203) rfl) ?_
        show Ends p e below _ T1 (mkF m 204 #[.val (.ref ar), .val (.int at1), .val (.int ch), .val (.int (ch &&& (3 : Int32))), .val (.int vv), .val (.int cp)] [(.int (((128 : Int32) ||| (((cp.toUInt32 >>> ((12 : Int32) &&& 31).toUInt32).toInt32) &&& (63 : Int32))).toInt8.toInt32)), (.int (at1 + (1 : Int32))), (.ref ar)])
        refine Ends.stB X1 hx hZ e1 N1 gar C1 (k := (O + 1)) (own_off ho hO _ 1 (by decide) (by decide)) (by omega) (hb hby d1_204) ?_
        intro T2 h2 L2 X2 e2 N2 W2 B2
        have C2 : Af Z h2 ar .byte 12 (fun q => .int ((upd (upd g O ((((240 : Int32) ||| ((cp.toUInt32 >>> ((18 : Int32) &&& 31).toUInt32).toInt32)).toInt8.toInt32)).toInt8.toInt32) (O + 1) ((((128 : Int32) ||| (((cp.toUInt32 >>> ((12 : Int32) &&& 31).toUInt32).toInt32) &&& (63 : Int32))).toInt8.toInt32)).toInt8.toInt32) q)) := B2.congr (fun q _ => own_updI (upd g O ((((240 : Int32) ||| ((cp.toUInt32 >>> ((18 : Int32) &&& 31).toUInt32).toInt32)).toInt8.toInt32)).toInt8.toInt32) (O + 1) _ q)
        have Z2 : n0 ≤ h2.size := Nat.le_trans Z1 (Nat.le_of_eq W2.size.symm)
        have K2 : Keep h0 h2 [ar] := K1.wr W2 (Or.inl (List.mem_of_getElem? (i := 0) rfl))
        show Ends p e below _ T2 (mkF m 205 #[.val (.ref ar), .val (.int at1), .val (.int ch), .val (.int (ch &&& (3 : Int32))), .val (.int vv), .val (.int cp)] [])
        refine Ends.by (fun _ => XS.aloadN X2.here hx rfl (hb hby d1_205) rfl rfl) ?_
        show Ends p e below _ T2 (mkF m 206 #[.val (.ref ar), .val (.int at1), .val (.int ch), .val (.int (ch &&& (3 : Int32))), .val (.int vv), .val (.int cp)] [(.ref ar)])
        refine Ends.by (fun _ => XS.iloadN X2.here hx rfl (hb hby d1_206) rfl) ?_
        show Ends p e below _ T2 (mkF m 207 #[.val (.ref ar), .val (.int at1), .val (.int ch), .val (.int (ch &&& (3 : Int32))), .val (.int vv), .val (.int cp)] [(.int at1), (.ref ar)])
        refine Ends.by (fun _ => XS.iconst X2.here hx rfl (hb hby d1_207)) ?_
        show Ends p e below _ T2 (mkF m 208 #[.val (.ref ar), .val (.int at1), .val (.int ch), .val (.int (ch &&& (3 : Int32))), .val (.int vv), .val (.int cp)] [(.int (2 : Int32)), (.int at1), (.ref ar)])
        refine Ends.by (fun _ => XS.iadd X2.here hx rfl (hb hby d1_208) rfl) ?_
        show Ends p e below _ T2 (mkF m 209 #[.val (.ref ar), .val (.int at1), .val (.int ch), .val (.int (ch &&& (3 : Int32))), .val (.int vv), .val (.int cp)] [(.int (at1 + (2 : Int32))), (.ref ar)])
        refine Ends.by (fun _ => XS.sipush X2.here hx rfl (hb hby d1_209)) ?_
        show Ends p e below _ T2 (mkF m 212 #[.val (.ref ar), .val (.int at1), .val (.int ch), .val (.int (ch &&& (3 : Int32))), .val (.int vv), .val (.int cp)] [(.int (128 : Int32)), (.int (at1 + (2 : Int32))), (.ref ar)])
        refine Ends.by (fun _ => XS.iload X2.here hx rfl (hb hby d1_212) rfl) ?_
        show Ends p e below _ T2 (mkF m 214 #[.val (.ref ar), .val (.int at1), .val (.int ch), .val (.int (ch &&& (3 : Int32))), .val (.int vv), .val (.int cp)] [(.int cp), (.int (128 : Int32)), (.int (at1 + (2 : Int32))), (.ref ar)])
        refine Ends.by (fun _ => XS.bipush X2.here hx rfl (hb hby d1_214)) ?_
        show Ends p e below _ T2 (mkF m 216 #[.val (.ref ar), .val (.int at1), .val (.int ch), .val (.int (ch &&& (3 : Int32))), .val (.int vv), .val (.int cp)] [(.int (6 : Int32)), (.int cp), (.int (128 : Int32)), (.int (at1 + (2 : Int32))), (.ref ar)])
        refine Ends.by (fun _ => XS.iushr X2.here hx rfl (hb hby d1_216) rfl) ?_
        show Ends p e below _ T2 (mkF m 217 #[.val (.ref ar), .val (.int at1), .val (.int ch), .val (.int (ch &&& (3 : Int32))), .val (.int vv), .val (.int cp)] [(.int ((cp.toUInt32 >>> ((6 : Int32) &&& 31).toUInt32).toInt32)), (.int (128 : Int32)), (.int (at1 + (2 : Int32))), (.ref ar)])
        refine Ends.by (fun _ => XS.bipush X2.here hx rfl (hb hby d1_217)) ?_
        show Ends p e below _ T2 (mkF m 219 #[.val (.ref ar), .val (.int at1), .val (.int ch), .val (.int (ch &&& (3 : Int32))), .val (.int vv), .val (.int cp)] [(.int (63 : Int32)), (.int ((cp.toUInt32 >>> ((6 : Int32) &&& 31).toUInt32).toInt32)), (.int (128 : Int32)), (.int (at1 + (2 : Int32))), (.ref ar)])
        refine Ends.by (fun _ => XS.iand X2.here hx rfl (hb hby d1_219) rfl) ?_
        show Ends p e below _ T2 (mkF m 220 #[.val (.ref ar), .val (.int at1), .val (.int ch), .val (.int (ch &&& (3 : Int32))), .val (.int vv), .val (.int cp)] [(.int (((cp.toUInt32 >>> ((6 : Int32) &&& 31).toUInt32).toInt32) &&& (63 : Int32))), (.int (128 : Int32)), (.int (at1 + (2 : Int32))), (.ref ar)])
        refine Ends.by (fun _ => XS.ior X2.here hx rfl (hb hby d1_220) rfl) ?_
        show Ends p e below _ T2 (mkF m 221 #[.val (.ref ar), .val (.int at1), .val (.int ch), .val (.int (ch &&& (3 : Int32))), .val (.int vv), .val (.int cp)] [(.int ((128 : Int32) ||| (((cp.toUInt32 >>> ((6 : Int32) &&& 31).toUInt32).toInt32) &&& (63 : Int32)))), (.int (at1 + (2 : Int32))), (.ref ar)])
        refine Ends.by (fun _ => XS.i2b X2.here hx rfl (hb hby d1_221) rfl) ?_
        show Ends p e below _ T2 (mkF m 222 #[.val (.ref ar), .val (.int at1), .val (.int ch), .val (.int (ch &&& (3 : Int32))), .val (.int vv), .val (.int cp)] [(.int (((128 : Int32) ||| (((cp.toUInt32 >>> ((6 : Int32) &&& 31).toUInt32).toInt32) &&& (63 : Int32))).toInt8.toInt32)), (.int (at1 + (2 : Int32))), (.ref ar)])
        refine Ends.stB X2 hx hZ e2 N2 gar C2 (k := (O + 2)) (own_off ho hO _ 2 (by decide) (by decide)) (by omega) (hb hby d1_222) ?_
        intro T3 h3 L3 X3 e3 N3 W3 B3
        have C3 : Af Z h3 ar .byte 12 (fun q => .int ((upd (upd (upd g O ((((240 : Int32) ||| ((cp.toUInt32 >>> ((18 : Int32) &&& 31).toUInt32).toInt32)).toInt8.toInt32)).toInt8.toInt32) (O + 1) ((((128 : Int32) ||| (((cp.toUInt32 >>> ((12 : Int32) &&& 31).toUInt32).toInt32) &&& (63 : Int32))).toInt8.toInt32)).toInt8.toInt32) (O + 2) ((((128 : Int32) ||| (((cp.toUInt32 >>> ((6 : Int32) &&& 31).toUInt32).toInt32) &&& (63 : Int32))).toInt8.toInt32)).toInt8.toInt32) q)) := B3.congr (fun q _ => own_updI (upd (upd g O ((((240 : Int32) ||| ((cp.toUInt32 >>> ((18 : Int32) &&& 31).toUInt32).toInt32)).toInt8.toInt32)).toInt8.toInt32) (O + 1) ((((128 : Int32) ||| (((cp.toUInt32 >>> ((12 : Int32) &&& 31).toUInt32).toInt32) &&& (63 : Int32))).toInt8.toInt32)).toInt8.toInt32) (O + 2) _ q)
        have Z3 : n0 ≤ h3.size := Nat.le_trans Z2 (Nat.le_of_eq W3.size.symm)
        have K3 : Keep h0 h3 [ar] := K2.wr W3 (Or.inl (List.mem_of_getElem? (i := 0) rfl))
        show Ends p e below _ T3 (mkF m 223 #[.val (.ref ar), .val (.int at1), .val (.int ch), .val (.int (ch &&& (3 : Int32))), .val (.int vv), .val (.int cp)] [])
        refine Ends.by (fun _ => XS.aloadN X3.here hx rfl (hb hby d1_223) rfl rfl) ?_
        show Ends p e below _ T3 (mkF m 224 #[.val (.ref ar), .val (.int at1), .val (.int ch), .val (.int (ch &&& (3 : Int32))), .val (.int vv), .val (.int cp)] [(.ref ar)])
        refine Ends.by (fun _ => XS.iloadN X3.here hx rfl (hb hby d1_224) rfl) ?_
        show Ends p e below _ T3 (mkF m 225 #[.val (.ref ar), .val (.int at1), .val (.int ch), .val (.int (ch &&& (3 : Int32))), .val (.int vv), .val (.int cp)] [(.int at1), (.ref ar)])
        refine Ends.by (fun _ => XS.iconst X3.here hx rfl (hb hby d1_225)) ?_
        show Ends p e below _ T3 (mkF m 226 #[.val (.ref ar), .val (.int at1), .val (.int ch), .val (.int (ch &&& (3 : Int32))), .val (.int vv), .val (.int cp)] [(.int (3 : Int32)), (.int at1), (.ref ar)])
        refine Ends.by (fun _ => XS.iadd X3.here hx rfl (hb hby d1_226) rfl) ?_
        show Ends p e below _ T3 (mkF m 227 #[.val (.ref ar), .val (.int at1), .val (.int ch), .val (.int (ch &&& (3 : Int32))), .val (.int vv), .val (.int cp)] [(.int (at1 + (3 : Int32))), (.ref ar)])
        refine Ends.by (fun _ => XS.sipush X3.here hx rfl (hb hby d1_227)) ?_
        show Ends p e below _ T3 (mkF m 230 #[.val (.ref ar), .val (.int at1), .val (.int ch), .val (.int (ch &&& (3 : Int32))), .val (.int vv), .val (.int cp)] [(.int (128 : Int32)), (.int (at1 + (3 : Int32))), (.ref ar)])
        refine Ends.by (fun _ => XS.iload X3.here hx rfl (hb hby d1_230) rfl) ?_
        show Ends p e below _ T3 (mkF m 232 #[.val (.ref ar), .val (.int at1), .val (.int ch), .val (.int (ch &&& (3 : Int32))), .val (.int vv), .val (.int cp)] [(.int cp), (.int (128 : Int32)), (.int (at1 + (3 : Int32))), (.ref ar)])
        refine Ends.by (fun _ => XS.bipush X3.here hx rfl (hb hby d1_232)) ?_
        show Ends p e below _ T3 (mkF m 234 #[.val (.ref ar), .val (.int at1), .val (.int ch), .val (.int (ch &&& (3 : Int32))), .val (.int vv), .val (.int cp)] [(.int (63 : Int32)), (.int cp), (.int (128 : Int32)), (.int (at1 + (3 : Int32))), (.ref ar)])
        refine Ends.by (fun _ => XS.iand X3.here hx rfl (hb hby d1_234) rfl) ?_
        show Ends p e below _ T3 (mkF m 235 #[.val (.ref ar), .val (.int at1), .val (.int ch), .val (.int (ch &&& (3 : Int32))), .val (.int vv), .val (.int cp)] [(.int (cp &&& (63 : Int32))), (.int (128 : Int32)), (.int (at1 + (3 : Int32))), (.ref ar)])
        refine Ends.by (fun _ => XS.ior X3.here hx rfl (hb hby d1_235) rfl) ?_
        show Ends p e below _ T3 (mkF m 236 #[.val (.ref ar), .val (.int at1), .val (.int ch), .val (.int (ch &&& (3 : Int32))), .val (.int vv), .val (.int cp)] [(.int ((128 : Int32) ||| (cp &&& (63 : Int32)))), (.int (at1 + (3 : Int32))), (.ref ar)])
        refine Ends.by (fun _ => XS.i2b X3.here hx rfl (hb hby d1_236) rfl) ?_
        show Ends p e below _ T3 (mkF m 237 #[.val (.ref ar), .val (.int at1), .val (.int ch), .val (.int (ch &&& (3 : Int32))), .val (.int vv), .val (.int cp)] [(.int (((128 : Int32) ||| (cp &&& (63 : Int32))).toInt8.toInt32)), (.int (at1 + (3 : Int32))), (.ref ar)])
        refine Ends.stB X3 hx hZ e3 N3 gar C3 (k := (O + 3)) (own_off ho hO _ 3 (by decide) (by decide)) (by omega) (hb hby d1_237) ?_
        intro T4 h4 L4 X4 e4 N4 W4 B4
        have C4 : Af Z h4 ar .byte 12 (fun q => .int ((upd (upd (upd (upd g O ((((240 : Int32) ||| ((cp.toUInt32 >>> ((18 : Int32) &&& 31).toUInt32).toInt32)).toInt8.toInt32)).toInt8.toInt32) (O + 1) ((((128 : Int32) ||| (((cp.toUInt32 >>> ((12 : Int32) &&& 31).toUInt32).toInt32) &&& (63 : Int32))).toInt8.toInt32)).toInt8.toInt32) (O + 2) ((((128 : Int32) ||| (((cp.toUInt32 >>> ((6 : Int32) &&& 31).toUInt32).toInt32) &&& (63 : Int32))).toInt8.toInt32)).toInt8.toInt32) (O + 3) ((((128 : Int32) ||| (cp &&& (63 : Int32))).toInt8.toInt32)).toInt8.toInt32) q)) := B4.congr (fun q _ => own_updI (upd (upd (upd g O ((((240 : Int32) ||| ((cp.toUInt32 >>> ((18 : Int32) &&& 31).toUInt32).toInt32)).toInt8.toInt32)).toInt8.toInt32) (O + 1) ((((128 : Int32) ||| (((cp.toUInt32 >>> ((12 : Int32) &&& 31).toUInt32).toInt32) &&& (63 : Int32))).toInt8.toInt32)).toInt8.toInt32) (O + 2) ((((128 : Int32) ||| (((cp.toUInt32 >>> ((6 : Int32) &&& 31).toUInt32).toInt32) &&& (63 : Int32))).toInt8.toInt32)).toInt8.toInt32) (O + 3) _ q)
        have Z4 : n0 ≤ h4.size := Nat.le_trans Z3 (Nat.le_of_eq W4.size.symm)
        have K4 : Keep h0 h4 [ar] := K3.wr W4 (Or.inl (List.mem_of_getElem? (i := 0) rfl))
        show Ends p e below _ T4 (mkF m 238 #[.val (.ref ar), .val (.int at1), .val (.int ch), .val (.int (ch &&& (3 : Int32))), .val (.int vv), .val (.int cp)] [])
        refine Ends.by (fun _ => XS.iconst X4.here hx rfl (hb hby d1_238)) ?_
        show Ends p e below _ T4 (mkF m 239 #[.val (.ref ar), .val (.int at1), .val (.int ch), .val (.int (ch &&& (3 : Int32))), .val (.int vv), .val (.int cp)] [(.int (4 : Int32))])
        exact Ends.retI X4 hx hlk hret (hb hby d1_239) (by decide) (by decide) (by rw [e4]; exact ⟨4, (upd (upd (upd (upd g O ((((240 : Int32) ||| ((cp.toUInt32 >>> ((18 : Int32) &&& 31).toUInt32).toInt32)).toInt8.toInt32)).toInt8.toInt32) (O + 1) ((((128 : Int32) ||| (((cp.toUInt32 >>> ((12 : Int32) &&& 31).toUInt32).toInt32) &&& (63 : Int32))).toInt8.toInt32)).toInt8.toInt32) (O + 2) ((((128 : Int32) ||| (((cp.toUInt32 >>> ((6 : Int32) &&& 31).toUInt32).toInt32) &&& (63 : Int32))).toInt8.toInt32)).toInt8.toInt32) (O + 3) ((((128 : Int32) ||| (cp &&& (63 : Int32))).toInt8.toInt32)).toInt8.toInt32), _, rfl, by decide, by decide, by decide, N4, K4, C4, own_PS (own_PS (own_PS (own_P1 g O (own_l4 _ hcp)) rfl (by decide) (own_tail _)) rfl (by decide) (own_tail _)) rfl (by decide) (own_tail _)⟩)
      · have c77 : (ch &&& (3 : Int32)) = (2 : Int32) := own_ne.2 q
        show Ends p e below _ s₁ (mkF m 80 #[.val (.ref ar), .val (.int at1), .val (.int ch), .val (.int (ch &&& (3 : Int32))), .val (.int vv), .unset] [])
        refine Ends.by (fun _ => XS.sipush X0.here hx rfl (hb hby d1_80)) ?_
        show Ends p e below _ s₁ (mkF m 83 #[.val (.ref ar), .val (.int at1), .val (.int ch), .val (.int (ch &&& (3 : Int32))), .val (.int vv), .unset] [(.int (2048 : Int32))])
        refine Ends.by (fun _ => XS.iload X0.here hx rfl (hb hby d1_83) rfl) ?_
        show Ends p e below _ s₁ (mkF m 85 #[.val (.ref ar), .val (.int at1), .val (.int ch), .val (.int (ch &&& (3 : Int32))), .val (.int vv), .unset] [(.int vv), (.int (2048 : Int32))])
        refine Ends.by (X0.ldcInt hx hown (mvT hZ (hw _ (List.mem_of_getElem? (i := 7) rfl))) (g := (mkF m 85 #[.val (.ref ar), .val (.int at1), .val (.int ch), .val (.int (ch &&& (3 : Int32))), .val (.int vv), .unset] [(.int vv), (.int (2048 : Int32))])) rfl (hb hby d1_85)) ?_
        show Ends p e below _ s₁ (mkF m 87 #[.val (.ref ar), .val (.int at1), .val (.int ch), .val (.int (ch &&& (3 : Int32))), .val (.int vv), .unset] [(.int (65535 : Int32)), (.int vv), (.int (2048 : Int32))])
        refine Ends.by (fun _ => XS.iand X0.here hx rfl (hb hby d1_87) rfl) ?_
        show Ends p e below _ s₁ (mkF m 88 #[.val (.ref ar), .val (.int at1), .val (.int ch), .val (.int (ch &&& (3 : Int32))), .val (.int vv), .unset] [(.int (vv &&& (65535 : Int32))), (.int (2048 : Int32))])
        refine Ends.by (X0.ldcInt hx hown (mvT hZ (hw _ (List.mem_of_getElem? (i := 8) rfl))) (g := (mkF m 88 #[.val (.ref ar), .val (.int at1), .val (.int ch), .val (.int (ch &&& (3 : Int32))), .val (.int vv), .unset] [(.int (vv &&& (65535 : Int32))), (.int (2048 : Int32))])) rfl (hb hby d1_88)) ?_
        show Ends p e below _ s₁ (mkF m 90 #[.val (.ref ar), .val (.int at1), .val (.int ch), .val (.int (ch &&& (3 : Int32))), .val (.int vv), .unset] [(.int (63488 : Int32)), (.int (vv &&& (65535 : Int32))), (.int (2048 : Int32))])
        refine Ends.by (fun _ => iremM (g := (mkF m 90 #[.val (.ref ar), .val (.int at1), .val (.int ch), .val (.int (ch &&& (3 : Int32))), .val (.int vv), .unset] [(.int (63488 : Int32)), (.int (vv &&& (65535 : Int32))), (.int (2048 : Int32))])) X0 hx rfl (hb hby d1_90) rfl (by decide)) ?_
        show Ends p e below _ s₁ (mkF m 91 #[.val (.ref ar), .val (.int at1), .val (.int ch), .val (.int (ch &&& (3 : Int32))), .val (.int vv), .unset] [(.int ((vv &&& (65535 : Int32)) % (63488 : Int32))), (.int (2048 : Int32))])
        refine Ends.by (fun _ => XS.iadd X0.here hx rfl (hb hby d1_91) rfl) ?_
        show Ends p e below _ s₁ (mkF m 92 #[.val (.ref ar), .val (.int at1), .val (.int ch), .val (.int (ch &&& (3 : Int32))), .val (.int vv), .unset] [(.int ((2048 : Int32) + ((vv &&& (65535 : Int32)) % (63488 : Int32))))])
        refine Ends.by (fun _ => XS.istore X0.here hx rfl (hb hby d1_92) rfl (l' := #[.val (.ref ar), .val (.int at1), .val (.int ch), .val (.int (ch &&& (3 : Int32))), .val (.int vv), .val (.int ((2048 : Int32) + ((vv &&& (65535 : Int32)) % (63488 : Int32))))]) rfl) ?_
        show Ends p e below _ s₁ (mkF m 94 #[.val (.ref ar), .val (.int at1), .val (.int ch), .val (.int (ch &&& (3 : Int32))), .val (.int vv), .val (.int ((2048 : Int32) + ((vv &&& (65535 : Int32)) % (63488 : Int32))))] [])
        have J : ∀ cp : Int32, (2048 ≤ cp.toInt ∧ cp.toInt ≤ 65535) → Ends p e below (Fini s (fun v h L => ∃ (n : Nat) (g' : Nat → Int32) (z : Int32), v = some (.int z) ∧ z.toInt = (n : Int) ∧ 1 ≤ n ∧ n ≤ 4 ∧ Fr n0 L ∧ Keep h0 h [ar] ∧ Af Z h ar .byte 12 (fun q => .int (g' q)) ∧ Put g g' O n) 0 0) s₁ (mkF m 116 #[.val (.ref ar), .val (.int at1), .val (.int ch), .val (.int (ch &&& (3 : Int32))), .val (.int vv), .val (.int cp)] []) := by
          intro cp hcp
          refine Ends.by (fun _ => XS.aloadN X0.here hx rfl (hb hby d1_116) rfl rfl) ?_
          show Ends p e below _ s₁ (mkF m 117 #[.val (.ref ar), .val (.int at1), .val (.int ch), .val (.int (ch &&& (3 : Int32))), .val (.int vv), .val (.int cp)] [(.ref ar)])
          refine Ends.by (fun _ => XS.iloadN X0.here hx rfl (hb hby d1_117) rfl) ?_
          show Ends p e below _ s₁ (mkF m 118 #[.val (.ref ar), .val (.int at1), .val (.int ch), .val (.int (ch &&& (3 : Int32))), .val (.int vv), .val (.int cp)] [(.int at1), (.ref ar)])
          refine Ends.by (fun _ => XS.sipush X0.here hx rfl (hb hby d1_118)) ?_
          show Ends p e below _ s₁ (mkF m 121 #[.val (.ref ar), .val (.int at1), .val (.int ch), .val (.int (ch &&& (3 : Int32))), .val (.int vv), .val (.int cp)] [(.int (224 : Int32)), (.int at1), (.ref ar)])
          refine Ends.by (fun _ => XS.iload X0.here hx rfl (hb hby d1_121) rfl) ?_
          show Ends p e below _ s₁ (mkF m 123 #[.val (.ref ar), .val (.int at1), .val (.int ch), .val (.int (ch &&& (3 : Int32))), .val (.int vv), .val (.int cp)] [(.int cp), (.int (224 : Int32)), (.int at1), (.ref ar)])
          refine Ends.by (fun _ => XS.bipush X0.here hx rfl (hb hby d1_123)) ?_
          show Ends p e below _ s₁ (mkF m 125 #[.val (.ref ar), .val (.int at1), .val (.int ch), .val (.int (ch &&& (3 : Int32))), .val (.int vv), .val (.int cp)] [(.int (12 : Int32)), (.int cp), (.int (224 : Int32)), (.int at1), (.ref ar)])
          refine Ends.by (fun _ => XS.iushr X0.here hx rfl (hb hby d1_125) rfl) ?_
          show Ends p e below _ s₁ (mkF m 126 #[.val (.ref ar), .val (.int at1), .val (.int ch), .val (.int (ch &&& (3 : Int32))), .val (.int vv), .val (.int cp)] [(.int ((cp.toUInt32 >>> ((12 : Int32) &&& 31).toUInt32).toInt32)), (.int (224 : Int32)), (.int at1), (.ref ar)])
          refine Ends.by (fun _ => XS.ior X0.here hx rfl (hb hby d1_126) rfl) ?_
          show Ends p e below _ s₁ (mkF m 127 #[.val (.ref ar), .val (.int at1), .val (.int ch), .val (.int (ch &&& (3 : Int32))), .val (.int vv), .val (.int cp)] [(.int ((224 : Int32) ||| ((cp.toUInt32 >>> ((12 : Int32) &&& 31).toUInt32).toInt32))), (.int at1), (.ref ar)])
          refine Ends.by (fun _ => XS.i2b X0.here hx rfl (hb hby d1_127) rfl) ?_
          show Ends p e below _ s₁ (mkF m 128 #[.val (.ref ar), .val (.int at1), .val (.int ch), .val (.int (ch &&& (3 : Int32))), .val (.int vv), .val (.int cp)] [(.int (((224 : Int32) ||| ((cp.toUInt32 >>> ((12 : Int32) &&& 31).toUInt32).toInt32)).toInt8.toInt32)), (.int at1), (.ref ar)])
          refine Ends.stB X0 hx hZ e0 N0 gar A0 (k := O) ho (by omega) (hb hby d1_128) ?_
          intro T5 h5 L5 X5 e5 N5 W5 B5
          have C5 : Af Z h5 ar .byte 12 (fun q => .int ((upd g O ((((224 : Int32) ||| ((cp.toUInt32 >>> ((12 : Int32) &&& 31).toUInt32).toInt32)).toInt8.toInt32)).toInt8.toInt32) q)) := B5.congr (fun q _ => own_updI g O _ q)
          have Z5 : n0 ≤ h5.size := Nat.le_trans Z0 (Nat.le_of_eq W5.size.symm)
          have K5 : Keep h0 h5 [ar] := K0.wr W5 (Or.inl (List.mem_of_getElem? (i := 0) rfl))
          show Ends p e below _ T5 (mkF m 129 #[.val (.ref ar), .val (.int at1), .val (.int ch), .val (.int (ch &&& (3 : Int32))), .val (.int vv), .val (.int cp)] [])
          refine Ends.by (fun _ => XS.aloadN X5.here hx rfl (hb hby d1_129) rfl rfl) ?_
          show Ends p e below _ T5 (mkF m 130 #[.val (.ref ar), .val (.int at1), .val (.int ch), .val (.int (ch &&& (3 : Int32))), .val (.int vv), .val (.int cp)] [(.ref ar)])
          refine Ends.by (fun _ => XS.iloadN X5.here hx rfl (hb hby d1_130) rfl) ?_
          show Ends p e below _ T5 (mkF m 131 #[.val (.ref ar), .val (.int at1), .val (.int ch), .val (.int (ch &&& (3 : Int32))), .val (.int vv), .val (.int cp)] [(.int at1), (.ref ar)])
          refine Ends.by (fun _ => XS.iconst X5.here hx rfl (hb hby d1_131)) ?_
          show Ends p e below _ T5 (mkF m 132 #[.val (.ref ar), .val (.int at1), .val (.int ch), .val (.int (ch &&& (3 : Int32))), .val (.int vv), .val (.int cp)] [(.int (1 : Int32)), (.int at1), (.ref ar)])
          refine Ends.by (fun _ => XS.iadd X5.here hx rfl (hb hby d1_132) rfl) ?_
          show Ends p e below _ T5 (mkF m 133 #[.val (.ref ar), .val (.int at1), .val (.int ch), .val (.int (ch &&& (3 : Int32))), .val (.int vv), .val (.int cp)] [(.int (at1 + (1 : Int32))), (.ref ar)])
          refine Ends.by (fun _ => XS.sipush X5.here hx rfl (hb hby d1_133)) ?_
          show Ends p e below _ T5 (mkF m 136 #[.val (.ref ar), .val (.int at1), .val (.int ch), .val (.int (ch &&& (3 : Int32))), .val (.int vv), .val (.int cp)] [(.int (128 : Int32)), (.int (at1 + (1 : Int32))), (.ref ar)])
          refine Ends.by (fun _ => XS.iload X5.here hx rfl (hb hby d1_136) rfl) ?_
          show Ends p e below _ T5 (mkF m 138 #[.val (.ref ar), .val (.int at1), .val (.int ch), .val (.int (ch &&& (3 : Int32))), .val (.int vv), .val (.int cp)] [(.int cp), (.int (128 : Int32)), (.int (at1 + (1 : Int32))), (.ref ar)])
          refine Ends.by (fun _ => XS.bipush X5.here hx rfl (hb hby d1_138)) ?_
          show Ends p e below _ T5 (mkF m 140 #[.val (.ref ar), .val (.int at1), .val (.int ch), .val (.int (ch &&& (3 : Int32))), .val (.int vv), .val (.int cp)] [(.int (6 : Int32)), (.int cp), (.int (128 : Int32)), (.int (at1 + (1 : Int32))), (.ref ar)])
          refine Ends.by (fun _ => XS.iushr X5.here hx rfl (hb hby d1_140) rfl) ?_
          show Ends p e below _ T5 (mkF m 141 #[.val (.ref ar), .val (.int at1), .val (.int ch), .val (.int (ch &&& (3 : Int32))), .val (.int vv), .val (.int cp)] [(.int ((cp.toUInt32 >>> ((6 : Int32) &&& 31).toUInt32).toInt32)), (.int (128 : Int32)), (.int (at1 + (1 : Int32))), (.ref ar)])
          refine Ends.by (fun _ => XS.bipush X5.here hx rfl (hb hby d1_141)) ?_
          show Ends p e below _ T5 (mkF m 143 #[.val (.ref ar), .val (.int at1), .val (.int ch), .val (.int (ch &&& (3 : Int32))), .val (.int vv), .val (.int cp)] [(.int (63 : Int32)), (.int ((cp.toUInt32 >>> ((6 : Int32) &&& 31).toUInt32).toInt32)), (.int (128 : Int32)), (.int (at1 + (1 : Int32))), (.ref ar)])
          refine Ends.by (fun _ => XS.iand X5.here hx rfl (hb hby d1_143) rfl) ?_
          show Ends p e below _ T5 (mkF m 144 #[.val (.ref ar), .val (.int at1), .val (.int ch), .val (.int (ch &&& (3 : Int32))), .val (.int vv), .val (.int cp)] [(.int (((cp.toUInt32 >>> ((6 : Int32) &&& 31).toUInt32).toInt32) &&& (63 : Int32))), (.int (128 : Int32)), (.int (at1 + (1 : Int32))), (.ref ar)])
          refine Ends.by (fun _ => XS.ior X5.here hx rfl (hb hby d1_144) rfl) ?_
          show Ends p e below _ T5 (mkF m 145 #[.val (.ref ar), .val (.int at1), .val (.int ch), .val (.int (ch &&& (3 : Int32))), .val (.int vv), .val (.int cp)] [(.int ((128 : Int32) ||| (((cp.toUInt32 >>> ((6 : Int32) &&& 31).toUInt32).toInt32) &&& (63 : Int32)))), (.int (at1 + (1 : Int32))), (.ref ar)])
          refine Ends.by (fun _ => XS.i2b X5.here hx rfl (hb hby d1_145) rfl) ?_
          show Ends p e below _ T5 (mkF m 146 #[.val (.ref ar), .val (.int at1), .val (.int ch), .val (.int (ch &&& (3 : Int32))), .val (.int vv), .val (.int cp)] [(.int (((128 : Int32) ||| (((cp.toUInt32 >>> ((6 : Int32) &&& 31).toUInt32).toInt32) &&& (63 : Int32))).toInt8.toInt32)), (.int (at1 + (1 : Int32))), (.ref ar)])
          refine Ends.stB X5 hx hZ e5 N5 gar C5 (k := (O + 1)) (own_off ho hO _ 1 (by decide) (by decide)) (by omega) (hb hby d1_146) ?_
          intro T6 h6 L6 X6 e6 N6 W6 B6
          have C6 : Af Z h6 ar .byte 12 (fun q => .int ((upd (upd g O ((((224 : Int32) ||| ((cp.toUInt32 >>> ((12 : Int32) &&& 31).toUInt32).toInt32)).toInt8.toInt32)).toInt8.toInt32) (O + 1) ((((128 : Int32) ||| (((cp.toUInt32 >>> ((6 : Int32) &&& 31).toUInt32).toInt32) &&& (63 : Int32))).toInt8.toInt32)).toInt8.toInt32) q)) := B6.congr (fun q _ => own_updI (upd g O ((((224 : Int32) ||| ((cp.toUInt32 >>> ((12 : Int32) &&& 31).toUInt32).toInt32)).toInt8.toInt32)).toInt8.toInt32) (O + 1) _ q)
          have Z6 : n0 ≤ h6.size := Nat.le_trans Z5 (Nat.le_of_eq W6.size.symm)
          have K6 : Keep h0 h6 [ar] := K5.wr W6 (Or.inl (List.mem_of_getElem? (i := 0) rfl))
          show Ends p e below _ T6 (mkF m 147 #[.val (.ref ar), .val (.int at1), .val (.int ch), .val (.int (ch &&& (3 : Int32))), .val (.int vv), .val (.int cp)] [])
          refine Ends.by (fun _ => XS.aloadN X6.here hx rfl (hb hby d1_147) rfl rfl) ?_
          show Ends p e below _ T6 (mkF m 148 #[.val (.ref ar), .val (.int at1), .val (.int ch), .val (.int (ch &&& (3 : Int32))), .val (.int vv), .val (.int cp)] [(.ref ar)])
          refine Ends.by (fun _ => XS.iloadN X6.here hx rfl (hb hby d1_148) rfl) ?_
          show Ends p e below _ T6 (mkF m 149 #[.val (.ref ar), .val (.int at1), .val (.int ch), .val (.int (ch &&& (3 : Int32))), .val (.int vv), .val (.int cp)] [(.int at1), (.ref ar)])
          refine Ends.by (fun _ => XS.iconst X6.here hx rfl (hb hby d1_149)) ?_
          show Ends p e below _ T6 (mkF m 150 #[.val (.ref ar), .val (.int at1), .val (.int ch), .val (.int (ch &&& (3 : Int32))), .val (.int vv), .val (.int cp)] [(.int (2 : Int32)), (.int at1), (.ref ar)])
          refine Ends.by (fun _ => XS.iadd X6.here hx rfl (hb hby d1_150) rfl) ?_
          show Ends p e below _ T6 (mkF m 151 #[.val (.ref ar), .val (.int at1), .val (.int ch), .val (.int (ch &&& (3 : Int32))), .val (.int vv), .val (.int cp)] [(.int (at1 + (2 : Int32))), (.ref ar)])
          refine Ends.by (fun _ => XS.sipush X6.here hx rfl (hb hby d1_151)) ?_
          show Ends p e below _ T6 (mkF m 154 #[.val (.ref ar), .val (.int at1), .val (.int ch), .val (.int (ch &&& (3 : Int32))), .val (.int vv), .val (.int cp)] [(.int (128 : Int32)), (.int (at1 + (2 : Int32))), (.ref ar)])
          refine Ends.by (fun _ => XS.iload X6.here hx rfl (hb hby d1_154) rfl) ?_
          show Ends p e below _ T6 (mkF m 156 #[.val (.ref ar), .val (.int at1), .val (.int ch), .val (.int (ch &&& (3 : Int32))), .val (.int vv), .val (.int cp)] [(.int cp), (.int (128 : Int32)), (.int (at1 + (2 : Int32))), (.ref ar)])
          refine Ends.by (fun _ => XS.bipush X6.here hx rfl (hb hby d1_156)) ?_
          show Ends p e below _ T6 (mkF m 158 #[.val (.ref ar), .val (.int at1), .val (.int ch), .val (.int (ch &&& (3 : Int32))), .val (.int vv), .val (.int cp)] [(.int (63 : Int32)), (.int cp), (.int (128 : Int32)), (.int (at1 + (2 : Int32))), (.ref ar)])
          refine Ends.by (fun _ => XS.iand X6.here hx rfl (hb hby d1_158) rfl) ?_
          show Ends p e below _ T6 (mkF m 159 #[.val (.ref ar), .val (.int at1), .val (.int ch), .val (.int (ch &&& (3 : Int32))), .val (.int vv), .val (.int cp)] [(.int (cp &&& (63 : Int32))), (.int (128 : Int32)), (.int (at1 + (2 : Int32))), (.ref ar)])
          refine Ends.by (fun _ => XS.ior X6.here hx rfl (hb hby d1_159) rfl) ?_
          show Ends p e below _ T6 (mkF m 160 #[.val (.ref ar), .val (.int at1), .val (.int ch), .val (.int (ch &&& (3 : Int32))), .val (.int vv), .val (.int cp)] [(.int ((128 : Int32) ||| (cp &&& (63 : Int32)))), (.int (at1 + (2 : Int32))), (.ref ar)])
          refine Ends.by (fun _ => XS.i2b X6.here hx rfl (hb hby d1_160) rfl) ?_
          show Ends p e below _ T6 (mkF m 161 #[.val (.ref ar), .val (.int at1), .val (.int ch), .val (.int (ch &&& (3 : Int32))), .val (.int vv), .val (.int cp)] [(.int (((128 : Int32) ||| (cp &&& (63 : Int32))).toInt8.toInt32)), (.int (at1 + (2 : Int32))), (.ref ar)])
          refine Ends.stB X6 hx hZ e6 N6 gar C6 (k := (O + 2)) (own_off ho hO _ 2 (by decide) (by decide)) (by omega) (hb hby d1_161) ?_
          intro T7 h7 L7 X7 e7 N7 W7 B7
          have C7 : Af Z h7 ar .byte 12 (fun q => .int ((upd (upd (upd g O ((((224 : Int32) ||| ((cp.toUInt32 >>> ((12 : Int32) &&& 31).toUInt32).toInt32)).toInt8.toInt32)).toInt8.toInt32) (O + 1) ((((128 : Int32) ||| (((cp.toUInt32 >>> ((6 : Int32) &&& 31).toUInt32).toInt32) &&& (63 : Int32))).toInt8.toInt32)).toInt8.toInt32) (O + 2) ((((128 : Int32) ||| (cp &&& (63 : Int32))).toInt8.toInt32)).toInt8.toInt32) q)) := B7.congr (fun q _ => own_updI (upd (upd g O ((((224 : Int32) ||| ((cp.toUInt32 >>> ((12 : Int32) &&& 31).toUInt32).toInt32)).toInt8.toInt32)).toInt8.toInt32) (O + 1) ((((128 : Int32) ||| (((cp.toUInt32 >>> ((6 : Int32) &&& 31).toUInt32).toInt32) &&& (63 : Int32))).toInt8.toInt32)).toInt8.toInt32) (O + 2) _ q)
          have Z7 : n0 ≤ h7.size := Nat.le_trans Z6 (Nat.le_of_eq W7.size.symm)
          have K7 : Keep h0 h7 [ar] := K6.wr W7 (Or.inl (List.mem_of_getElem? (i := 0) rfl))
          show Ends p e below _ T7 (mkF m 162 #[.val (.ref ar), .val (.int at1), .val (.int ch), .val (.int (ch &&& (3 : Int32))), .val (.int vv), .val (.int cp)] [])
          refine Ends.by (fun _ => XS.iconst X7.here hx rfl (hb hby d1_162)) ?_
          show Ends p e below _ T7 (mkF m 163 #[.val (.ref ar), .val (.int at1), .val (.int ch), .val (.int (ch &&& (3 : Int32))), .val (.int vv), .val (.int cp)] [(.int (3 : Int32))])
          exact Ends.retI X7 hx hlk hret (hb hby d1_163) (by decide) (by decide) (by rw [e7]; exact ⟨3, (upd (upd (upd g O ((((224 : Int32) ||| ((cp.toUInt32 >>> ((12 : Int32) &&& 31).toUInt32).toInt32)).toInt8.toInt32)).toInt8.toInt32) (O + 1) ((((128 : Int32) ||| (((cp.toUInt32 >>> ((6 : Int32) &&& 31).toUInt32).toInt32) &&& (63 : Int32))).toInt8.toInt32)).toInt8.toInt32) (O + 2) ((((128 : Int32) ||| (cp &&& (63 : Int32))).toInt8.toInt32)).toInt8.toInt32), _, rfl, by decide, by decide, by decide, N7, K7, C7, own_PS (own_PS (own_P1 g O (own_l3 _ hcp)) rfl (by decide) (own_tail _)) rfl (by decide) (own_tail _)⟩)
        have hcp := own_c2 vv
        generalize ((2048 : Int32) + ((vv &&& (65535 : Int32)) % (63488 : Int32))) = cp at hcp ⊢
        show Ends p e below _ s₁ (mkF m 94 #[.val (.ref ar), .val (.int at1), .val (.int ch), .val (.int (ch &&& (3 : Int32))), .val (.int vv), .val (.int cp)] [])
        refine Ends.by (fun _ => XS.iload X0.here hx rfl (hb hby d1_94) rfl) ?_
        show Ends p e below _ s₁ (mkF m 96 #[.val (.ref ar), .val (.int at1), .val (.int ch), .val (.int (ch &&& (3 : Int32))), .val (.int vv), .val (.int cp)] [(.int cp)])
        refine Ends.by (X0.ldcInt hx hown (mvT hZ (hw _ (List.mem_of_getElem? (i := 9) rfl))) (g := (mkF m 96 #[.val (.ref ar), .val (.int at1), .val (.int ch), .val (.int (ch &&& (3 : Int32))), .val (.int vv), .val (.int cp)] [(.int cp)])) rfl (hb hby d1_96)) ?_
        show Ends p e below _ s₁ (mkF m 98 #[.val (.ref ar), .val (.int at1), .val (.int ch), .val (.int (ch &&& (3 : Int32))), .val (.int vv), .val (.int cp)] [(.int (55296 : Int32)), (.int cp)])
        refine Ends.icmp X0 hx (hb hby d1_98) 116 (by decide) (by decide) (fun q => ?_) (fun q => ?_)
        · have c98 : cp < (55296 : Int32) := own_lt.1 q
          show Ends p e below _ s₁ (mkF m 116 #[.val (.ref ar), .val (.int at1), .val (.int ch), .val (.int (ch &&& (3 : Int32))), .val (.int vv), .val (.int cp)] [])
          exact J _ hcp
        · have c98 : ¬ (cp < (55296 : Int32)) := own_lt.2 q
          show Ends p e below _ s₁ (mkF m 101 #[.val (.ref ar), .val (.int at1), .val (.int ch), .val (.int (ch &&& (3 : Int32))), .val (.int vv), .val (.int cp)] [])
          refine Ends.by (fun _ => XS.iload X0.here hx rfl (hb hby d1_101) rfl) ?_
          show Ends p e below _ s₁ (mkF m 103 #[.val (.ref ar), .val (.int at1), .val (.int ch), .val (.int (ch &&& (3 : Int32))), .val (.int vv), .val (.int cp)] [(.int cp)])
          refine Ends.by (X0.ldcInt hx hown (mvT hZ (hw _ (List.mem_of_getElem? (i := 18) rfl))) (g := (mkF m 103 #[.val (.ref ar), .val (.int at1), .val (.int ch), .val (.int (ch &&& (3 : Int32))), .val (.int vv), .val (.int cp)] [(.int cp)])) rfl (hb hby d1_103)) ?_
          show Ends p e below _ s₁ (mkF m 105 #[.val (.ref ar), .val (.int at1), .val (.int ch), .val (.int (ch &&& (3 : Int32))), .val (.int vv), .val (.int cp)] [(.int (57343 : Int32)), (.int cp)])
          refine Ends.icmp X0 hx (hb hby d1_105) 116 (by decide) (by decide) (fun q => ?_) (fun q => ?_)
          · have c105 : (57343 : Int32) < cp := own_gt.1 q
            show Ends p e below _ s₁ (mkF m 116 #[.val (.ref ar), .val (.int at1), .val (.int ch), .val (.int (ch &&& (3 : Int32))), .val (.int vv), .val (.int cp)] [])
            exact J _ hcp
          · have c105 : ¬ ((57343 : Int32) < cp) := own_gt.2 q
            show Ends p e below _ s₁ (mkF m 108 #[.val (.ref ar), .val (.int at1), .val (.int ch), .val (.int (ch &&& (3 : Int32))), .val (.int vv), .val (.int cp)] [])
            refine Ends.by (fun _ => XS.iload X0.here hx rfl (hb hby d1_108) rfl) ?_
            show Ends p e below _ s₁ (mkF m 110 #[.val (.ref ar), .val (.int at1), .val (.int ch), .val (.int (ch &&& (3 : Int32))), .val (.int vv), .val (.int cp)] [(.int cp)])
            refine Ends.by (fun _ => XS.sipush X0.here hx rfl (hb hby d1_110)) ?_
            show Ends p e below _ s₁ (mkF m 113 #[.val (.ref ar), .val (.int at1), .val (.int ch), .val (.int (ch &&& (3 : Int32))), .val (.int vv), .val (.int cp)] [(.int (2048 : Int32)), (.int cp)])
            refine Ends.by (fun _ => XS.isub X0.here hx rfl (hb hby d1_113) rfl) ?_
            show Ends p e below _ s₁ (mkF m 114 #[.val (.ref ar), .val (.int at1), .val (.int ch), .val (.int (ch &&& (3 : Int32))), .val (.int vv), .val (.int cp)] [(.int (cp - (2048 : Int32)))])
            refine Ends.by (fun _ => XS.istore X0.here hx rfl (hb hby d1_114) rfl (l' := #[.val (.ref ar), .val (.int at1), .val (.int ch), .val (.int (ch &&& (3 : Int32))), .val (.int vv), .val (.int (cp - (2048 : Int32)))]) rfl) ?_
            show Ends p e below _ s₁ (mkF m 116 #[.val (.ref ar), .val (.int at1), .val (.int ch), .val (.int (ch &&& (3 : Int32))), .val (.int vv), .val (.int (cp - (2048 : Int32)))] [])
            exact J _ (own_c2s _ c98 c105)
    · have c26 : (ch &&& (3 : Int32)) = (1 : Int32) := own_ne.2 q
      show Ends p e below _ s₁ (mkF m 29 #[.val (.ref ar), .val (.int at1), .val (.int ch), .val (.int (ch &&& (3 : Int32))), .val (.int vv), .unset] [])
      refine Ends.by (fun _ => XS.sipush X0.here hx rfl (hb hby d1_29)) ?_
      show Ends p e below _ s₁ (mkF m 32 #[.val (.ref ar), .val (.int at1), .val (.int ch), .val (.int (ch &&& (3 : Int32))), .val (.int vv), .unset] [(.int (128 : Int32))])
      refine Ends.by (fun _ => XS.iload X0.here hx rfl (hb hby d1_32) rfl) ?_
      show Ends p e below _ s₁ (mkF m 34 #[.val (.ref ar), .val (.int at1), .val (.int ch), .val (.int (ch &&& (3 : Int32))), .val (.int vv), .unset] [(.int vv), (.int (128 : Int32))])
      refine Ends.by (fun _ => XS.sipush X0.here hx rfl (hb hby d1_34)) ?_
      show Ends p e below _ s₁ (mkF m 37 #[.val (.ref ar), .val (.int at1), .val (.int ch), .val (.int (ch &&& (3 : Int32))), .val (.int vv), .unset] [(.int (2047 : Int32)), (.int vv), (.int (128 : Int32))])
      refine Ends.by (fun _ => XS.iand X0.here hx rfl (hb hby d1_37) rfl) ?_
      show Ends p e below _ s₁ (mkF m 38 #[.val (.ref ar), .val (.int at1), .val (.int ch), .val (.int (ch &&& (3 : Int32))), .val (.int vv), .unset] [(.int (vv &&& (2047 : Int32))), (.int (128 : Int32))])
      refine Ends.by (fun _ => XS.sipush X0.here hx rfl (hb hby d1_38)) ?_
      show Ends p e below _ s₁ (mkF m 41 #[.val (.ref ar), .val (.int at1), .val (.int ch), .val (.int (ch &&& (3 : Int32))), .val (.int vv), .unset] [(.int (1920 : Int32)), (.int (vv &&& (2047 : Int32))), (.int (128 : Int32))])
      refine Ends.by (fun _ => iremM (g := (mkF m 41 #[.val (.ref ar), .val (.int at1), .val (.int ch), .val (.int (ch &&& (3 : Int32))), .val (.int vv), .unset] [(.int (1920 : Int32)), (.int (vv &&& (2047 : Int32))), (.int (128 : Int32))])) X0 hx rfl (hb hby d1_41) rfl (by decide)) ?_
      show Ends p e below _ s₁ (mkF m 42 #[.val (.ref ar), .val (.int at1), .val (.int ch), .val (.int (ch &&& (3 : Int32))), .val (.int vv), .unset] [(.int ((vv &&& (2047 : Int32)) % (1920 : Int32))), (.int (128 : Int32))])
      refine Ends.by (fun _ => XS.iadd X0.here hx rfl (hb hby d1_42) rfl) ?_
      show Ends p e below _ s₁ (mkF m 43 #[.val (.ref ar), .val (.int at1), .val (.int ch), .val (.int (ch &&& (3 : Int32))), .val (.int vv), .unset] [(.int ((128 : Int32) + ((vv &&& (2047 : Int32)) % (1920 : Int32))))])
      refine Ends.by (fun _ => XS.istore X0.here hx rfl (hb hby d1_43) rfl (l' := #[.val (.ref ar), .val (.int at1), .val (.int ch), .val (.int (ch &&& (3 : Int32))), .val (.int vv), .val (.int ((128 : Int32) + ((vv &&& (2047 : Int32)) % (1920 : Int32))))]) rfl) ?_
      show Ends p e below _ s₁ (mkF m 45 #[.val (.ref ar), .val (.int at1), .val (.int ch), .val (.int (ch &&& (3 : Int32))), .val (.int vv), .val (.int ((128 : Int32) + ((vv &&& (2047 : Int32)) % (1920 : Int32))))] [])
      have hcp := own_c1 vv
      generalize ((128 : Int32) + ((vv &&& (2047 : Int32)) % (1920 : Int32))) = cp at hcp ⊢
      show Ends p e below _ s₁ (mkF m 45 #[.val (.ref ar), .val (.int at1), .val (.int ch), .val (.int (ch &&& (3 : Int32))), .val (.int vv), .val (.int cp)] [])
      refine Ends.by (fun _ => XS.aloadN X0.here hx rfl (hb hby d1_45) rfl rfl) ?_
      show Ends p e below _ s₁ (mkF m 46 #[.val (.ref ar), .val (.int at1), .val (.int ch), .val (.int (ch &&& (3 : Int32))), .val (.int vv), .val (.int cp)] [(.ref ar)])
      refine Ends.by (fun _ => XS.iloadN X0.here hx rfl (hb hby d1_46) rfl) ?_
      show Ends p e below _ s₁ (mkF m 47 #[.val (.ref ar), .val (.int at1), .val (.int ch), .val (.int (ch &&& (3 : Int32))), .val (.int vv), .val (.int cp)] [(.int at1), (.ref ar)])
      refine Ends.by (fun _ => XS.sipush X0.here hx rfl (hb hby d1_47)) ?_
      show Ends p e below _ s₁ (mkF m 50 #[.val (.ref ar), .val (.int at1), .val (.int ch), .val (.int (ch &&& (3 : Int32))), .val (.int vv), .val (.int cp)] [(.int (192 : Int32)), (.int at1), (.ref ar)])
      refine Ends.by (fun _ => XS.iload X0.here hx rfl (hb hby d1_50) rfl) ?_
      show Ends p e below _ s₁ (mkF m 52 #[.val (.ref ar), .val (.int at1), .val (.int ch), .val (.int (ch &&& (3 : Int32))), .val (.int vv), .val (.int cp)] [(.int cp), (.int (192 : Int32)), (.int at1), (.ref ar)])
      refine Ends.by (fun _ => XS.bipush X0.here hx rfl (hb hby d1_52)) ?_
      show Ends p e below _ s₁ (mkF m 54 #[.val (.ref ar), .val (.int at1), .val (.int ch), .val (.int (ch &&& (3 : Int32))), .val (.int vv), .val (.int cp)] [(.int (6 : Int32)), (.int cp), (.int (192 : Int32)), (.int at1), (.ref ar)])
      refine Ends.by (fun _ => XS.iushr X0.here hx rfl (hb hby d1_54) rfl) ?_
      show Ends p e below _ s₁ (mkF m 55 #[.val (.ref ar), .val (.int at1), .val (.int ch), .val (.int (ch &&& (3 : Int32))), .val (.int vv), .val (.int cp)] [(.int ((cp.toUInt32 >>> ((6 : Int32) &&& 31).toUInt32).toInt32)), (.int (192 : Int32)), (.int at1), (.ref ar)])
      refine Ends.by (fun _ => XS.ior X0.here hx rfl (hb hby d1_55) rfl) ?_
      show Ends p e below _ s₁ (mkF m 56 #[.val (.ref ar), .val (.int at1), .val (.int ch), .val (.int (ch &&& (3 : Int32))), .val (.int vv), .val (.int cp)] [(.int ((192 : Int32) ||| ((cp.toUInt32 >>> ((6 : Int32) &&& 31).toUInt32).toInt32))), (.int at1), (.ref ar)])
      refine Ends.by (fun _ => XS.i2b X0.here hx rfl (hb hby d1_56) rfl) ?_
      show Ends p e below _ s₁ (mkF m 57 #[.val (.ref ar), .val (.int at1), .val (.int ch), .val (.int (ch &&& (3 : Int32))), .val (.int vv), .val (.int cp)] [(.int (((192 : Int32) ||| ((cp.toUInt32 >>> ((6 : Int32) &&& 31).toUInt32).toInt32)).toInt8.toInt32)), (.int at1), (.ref ar)])
      refine Ends.stB X0 hx hZ e0 N0 gar A0 (k := O) ho (by omega) (hb hby d1_57) ?_
      intro T8 h8 L8 X8 e8 N8 W8 B8
      have C8 : Af Z h8 ar .byte 12 (fun q => .int ((upd g O ((((192 : Int32) ||| ((cp.toUInt32 >>> ((6 : Int32) &&& 31).toUInt32).toInt32)).toInt8.toInt32)).toInt8.toInt32) q)) := B8.congr (fun q _ => own_updI g O _ q)
      have Z8 : n0 ≤ h8.size := Nat.le_trans Z0 (Nat.le_of_eq W8.size.symm)
      have K8 : Keep h0 h8 [ar] := K0.wr W8 (Or.inl (List.mem_of_getElem? (i := 0) rfl))
      show Ends p e below _ T8 (mkF m 58 #[.val (.ref ar), .val (.int at1), .val (.int ch), .val (.int (ch &&& (3 : Int32))), .val (.int vv), .val (.int cp)] [])
      refine Ends.by (fun _ => XS.aloadN X8.here hx rfl (hb hby d1_58) rfl rfl) ?_
      show Ends p e below _ T8 (mkF m 59 #[.val (.ref ar), .val (.int at1), .val (.int ch), .val (.int (ch &&& (3 : Int32))), .val (.int vv), .val (.int cp)] [(.ref ar)])
      refine Ends.by (fun _ => XS.iloadN X8.here hx rfl (hb hby d1_59) rfl) ?_
      show Ends p e below _ T8 (mkF m 60 #[.val (.ref ar), .val (.int at1), .val (.int ch), .val (.int (ch &&& (3 : Int32))), .val (.int vv), .val (.int cp)] [(.int at1), (.ref ar)])
      refine Ends.by (fun _ => XS.iconst X8.here hx rfl (hb hby d1_60)) ?_
      show Ends p e below _ T8 (mkF m 61 #[.val (.ref ar), .val (.int at1), .val (.int ch), .val (.int (ch &&& (3 : Int32))), .val (.int vv), .val (.int cp)] [(.int (1 : Int32)), (.int at1), (.ref ar)])
      refine Ends.by (fun _ => XS.iadd X8.here hx rfl (hb hby d1_61) rfl) ?_
      show Ends p e below _ T8 (mkF m 62 #[.val (.ref ar), .val (.int at1), .val (.int ch), .val (.int (ch &&& (3 : Int32))), .val (.int vv), .val (.int cp)] [(.int (at1 + (1 : Int32))), (.ref ar)])
      refine Ends.by (fun _ => XS.sipush X8.here hx rfl (hb hby d1_62)) ?_
      show Ends p e below _ T8 (mkF m 65 #[.val (.ref ar), .val (.int at1), .val (.int ch), .val (.int (ch &&& (3 : Int32))), .val (.int vv), .val (.int cp)] [(.int (128 : Int32)), (.int (at1 + (1 : Int32))), (.ref ar)])
      refine Ends.by (fun _ => XS.iload X8.here hx rfl (hb hby d1_65) rfl) ?_
      show Ends p e below _ T8 (mkF m 67 #[.val (.ref ar), .val (.int at1), .val (.int ch), .val (.int (ch &&& (3 : Int32))), .val (.int vv), .val (.int cp)] [(.int cp), (.int (128 : Int32)), (.int (at1 + (1 : Int32))), (.ref ar)])
      refine Ends.by (fun _ => XS.bipush X8.here hx rfl (hb hby d1_67)) ?_
      show Ends p e below _ T8 (mkF m 69 #[.val (.ref ar), .val (.int at1), .val (.int ch), .val (.int (ch &&& (3 : Int32))), .val (.int vv), .val (.int cp)] [(.int (63 : Int32)), (.int cp), (.int (128 : Int32)), (.int (at1 + (1 : Int32))), (.ref ar)])
      refine Ends.by (fun _ => XS.iand X8.here hx rfl (hb hby d1_69) rfl) ?_
      show Ends p e below _ T8 (mkF m 70 #[.val (.ref ar), .val (.int at1), .val (.int ch), .val (.int (ch &&& (3 : Int32))), .val (.int vv), .val (.int cp)] [(.int (cp &&& (63 : Int32))), (.int (128 : Int32)), (.int (at1 + (1 : Int32))), (.ref ar)])
      refine Ends.by (fun _ => XS.ior X8.here hx rfl (hb hby d1_70) rfl) ?_
      show Ends p e below _ T8 (mkF m 71 #[.val (.ref ar), .val (.int at1), .val (.int ch), .val (.int (ch &&& (3 : Int32))), .val (.int vv), .val (.int cp)] [(.int ((128 : Int32) ||| (cp &&& (63 : Int32)))), (.int (at1 + (1 : Int32))), (.ref ar)])
      refine Ends.by (fun _ => XS.i2b X8.here hx rfl (hb hby d1_71) rfl) ?_
      show Ends p e below _ T8 (mkF m 72 #[.val (.ref ar), .val (.int at1), .val (.int ch), .val (.int (ch &&& (3 : Int32))), .val (.int vv), .val (.int cp)] [(.int (((128 : Int32) ||| (cp &&& (63 : Int32))).toInt8.toInt32)), (.int (at1 + (1 : Int32))), (.ref ar)])
      refine Ends.stB X8 hx hZ e8 N8 gar C8 (k := (O + 1)) (own_off ho hO _ 1 (by decide) (by decide)) (by omega) (hb hby d1_72) ?_
      intro T9 h9 L9 X9 e9 N9 W9 B9
      have C9 : Af Z h9 ar .byte 12 (fun q => .int ((upd (upd g O ((((192 : Int32) ||| ((cp.toUInt32 >>> ((6 : Int32) &&& 31).toUInt32).toInt32)).toInt8.toInt32)).toInt8.toInt32) (O + 1) ((((128 : Int32) ||| (cp &&& (63 : Int32))).toInt8.toInt32)).toInt8.toInt32) q)) := B9.congr (fun q _ => own_updI (upd g O ((((192 : Int32) ||| ((cp.toUInt32 >>> ((6 : Int32) &&& 31).toUInt32).toInt32)).toInt8.toInt32)).toInt8.toInt32) (O + 1) _ q)
      have Z9 : n0 ≤ h9.size := Nat.le_trans Z8 (Nat.le_of_eq W9.size.symm)
      have K9 : Keep h0 h9 [ar] := K8.wr W9 (Or.inl (List.mem_of_getElem? (i := 0) rfl))
      show Ends p e below _ T9 (mkF m 73 #[.val (.ref ar), .val (.int at1), .val (.int ch), .val (.int (ch &&& (3 : Int32))), .val (.int vv), .val (.int cp)] [])
      refine Ends.by (fun _ => XS.iconst X9.here hx rfl (hb hby d1_73)) ?_
      show Ends p e below _ T9 (mkF m 74 #[.val (.ref ar), .val (.int at1), .val (.int ch), .val (.int (ch &&& (3 : Int32))), .val (.int vv), .val (.int cp)] [(.int (2 : Int32))])
      exact Ends.retI X9 hx hlk hret (hb hby d1_74) (by decide) (by decide) (by rw [e9]; exact ⟨2, (upd (upd g O ((((192 : Int32) ||| ((cp.toUInt32 >>> ((6 : Int32) &&& 31).toUInt32).toInt32)).toInt8.toInt32)).toInt8.toInt32) (O + 1) ((((128 : Int32) ||| (cp &&& (63 : Int32))).toInt8.toInt32)).toInt8.toInt32), _, rfl, by decide, by decide, by decide, N9, K9, C9, own_PS (own_P1 g O (own_l2 _ hcp)) rfl (by decide) (own_tail _)⟩)
  · have c10 : (ch &&& (3 : Int32)) = (0 : Int32) := own_ne.2 q
    show Ends p e below _ s₁ (mkF m 13 #[.val (.ref ar), .val (.int at1), .val (.int ch), .val (.int (ch &&& (3 : Int32))), .val (.int vv), .unset] [])
    refine Ends.by (fun _ => XS.aloadN X0.here hx rfl (hb hby d1_13) rfl rfl) ?_
    show Ends p e below _ s₁ (mkF m 14 #[.val (.ref ar), .val (.int at1), .val (.int ch), .val (.int (ch &&& (3 : Int32))), .val (.int vv), .unset] [(.ref ar)])
    refine Ends.by (fun _ => XS.iloadN X0.here hx rfl (hb hby d1_14) rfl) ?_
    show Ends p e below _ s₁ (mkF m 15 #[.val (.ref ar), .val (.int at1), .val (.int ch), .val (.int (ch &&& (3 : Int32))), .val (.int vv), .unset] [(.int at1), (.ref ar)])
    refine Ends.by (fun _ => XS.iload X0.here hx rfl (hb hby d1_15) rfl) ?_
    show Ends p e below _ s₁ (mkF m 17 #[.val (.ref ar), .val (.int at1), .val (.int ch), .val (.int (ch &&& (3 : Int32))), .val (.int vv), .unset] [(.int vv), (.int at1), (.ref ar)])
    refine Ends.by (fun _ => XS.bipush X0.here hx rfl (hb hby d1_17)) ?_
    show Ends p e below _ s₁ (mkF m 19 #[.val (.ref ar), .val (.int at1), .val (.int ch), .val (.int (ch &&& (3 : Int32))), .val (.int vv), .unset] [(.int (127 : Int32)), (.int vv), (.int at1), (.ref ar)])
    refine Ends.by (fun _ => XS.iand X0.here hx rfl (hb hby d1_19) rfl) ?_
    show Ends p e below _ s₁ (mkF m 20 #[.val (.ref ar), .val (.int at1), .val (.int ch), .val (.int (ch &&& (3 : Int32))), .val (.int vv), .unset] [(.int (vv &&& (127 : Int32))), (.int at1), (.ref ar)])
    refine Ends.by (fun _ => XS.i2b X0.here hx rfl (hb hby d1_20) rfl) ?_
    show Ends p e below _ s₁ (mkF m 21 #[.val (.ref ar), .val (.int at1), .val (.int ch), .val (.int (ch &&& (3 : Int32))), .val (.int vv), .unset] [(.int ((vv &&& (127 : Int32)).toInt8.toInt32)), (.int at1), (.ref ar)])
    refine Ends.stB X0 hx hZ e0 N0 gar A0 (k := O) ho (by omega) (hb hby d1_21) ?_
    intro T10 h10 L10 X10 e10 N10 W10 B10
    have C10 : Af Z h10 ar .byte 12 (fun q => .int ((upd g O (((vv &&& (127 : Int32)).toInt8.toInt32)).toInt8.toInt32) q)) := B10.congr (fun q _ => own_updI g O _ q)
    have Z10 : n0 ≤ h10.size := Nat.le_trans Z0 (Nat.le_of_eq W10.size.symm)
    have K10 : Keep h0 h10 [ar] := K0.wr W10 (Or.inl (List.mem_of_getElem? (i := 0) rfl))
    show Ends p e below _ T10 (mkF m 22 #[.val (.ref ar), .val (.int at1), .val (.int ch), .val (.int (ch &&& (3 : Int32))), .val (.int vv), .unset] [])
    refine Ends.by (fun _ => XS.iconst X10.here hx rfl (hb hby d1_22)) ?_
    show Ends p e below _ T10 (mkF m 23 #[.val (.ref ar), .val (.int at1), .val (.int ch), .val (.int (ch &&& (3 : Int32))), .val (.int vv), .unset] [(.int (1 : Int32))])
    exact Ends.retI X10 hx hlk hret (hb hby d1_23) (by decide) (by decide) (by rw [e10]; exact ⟨1, (upd g O (((vv &&& (127 : Int32)).toInt8.toInt32)).toInt8.toInt32), _, rfl, by decide, by decide, by decide, N10, K10, C10, own_P1 g O (own_ascii _)⟩)
theorem d3_0 : decode prog_75_method_4_code 0 = .ok (.aload_n 0, 1) := by decide +kernel
theorem d3_1 : decode prog_75_method_4_code 1 = .ok (.iload_n 1, 1) := by decide +kernel
theorem d3_2 : decode prog_75_method_4_code 2 = .ok (.baload, 1) := by decide +kernel
theorem d3_3 : decode prog_75_method_4_code 3 = .ok (.sipush 192, 3) := by decide +kernel
theorem d3_6 : decode prog_75_method_4_code 6 = .ok (.iand, 1) := by decide +kernel
theorem d3_7 : decode prog_75_method_4_code 7 = .ok (.sipush 128, 3) := by decide +kernel
theorem d3_10 : decode prog_75_method_4_code 10 = .ok (.if_icmp .eq 7, 3) := by decide +kernel
theorem d3_13 : decode prog_75_method_4_code 13 = .ok (.iconst 1, 1) := by decide +kernel
theorem d3_14 : decode prog_75_method_4_code 14 = .ok (.goto 4, 3) := by decide +kernel
theorem d3_17 : decode prog_75_method_4_code 17 = .ok (.iconst 0, 1) := by decide +kernel
theorem d3_18 : decode prog_75_method_4_code 18 = .ok (.ireturn, 1) := by decide +kernel
theorem pd_3 : parseMethodDescriptor "([BI)Z" = some ⟨[(.array .byte), .int], some .boolean⟩ := by decide +kernel
theorem pf_3 : plainFor (⟨"com/example/vedette/vedette/records/Utf8", "startsCharacter", "([BI)Z"⟩ : MethodName) = true := plainFor_of_name (by first | (simp [plainName, overriddenIn, x]; done) | decide +kernel)
theorem ef_3 (m : MethodId) (ar : Addr) (i : Int32) : entryFrame m #[(.ref ar), (.int i)] 2 = mkF m 0 #[.val (.ref ar), .val (.int i)] [] := by first | (simp [entryFrame, mkF, argsToLocals, Value.category]; done) | rfl
def own_sc (y : Int32) : Int32 := if (y &&& (192 : Int32)) = (128 : Int32) then 0 else 1
set_option maxRecDepth 65536 in
set_option maxHeartbeats 40000000 in
theorem con_3 (l : Launch) (Z : State) (a0 : Array Value) (hw : ∀ d ∈ tables_1, d.before a0 Z = true) (ar : Addr) (i : Int32) (I : Nat) (g : Nat → Int32) (h0 : Heap) (n0 : Nat) (Z0 : n0 ≤ h0.size) (A0 : Af Z h0 ar .byte 12 (fun q => .int (g q))) (hi : i.toInt = (I : Int)) (hI : I < 12) : Con l Z (⟨"com/example/vedette/vedette/records/Utf8", "startsCharacter", "([BI)Z"⟩ : MethodName) prog_75_method_4_code 2 (some .boolean) ({ frames := 0, cells := 0, slots := 0, locals := 0 } : Room) #[(.ref ar), (.int i)] h0 (Pure h0 (some (.int (own_sc (g I))))) := by
  refine Con.intro pf_3 ?_
  intro p e s m below meth c s₁ hx hby hml hown hnm hret hlk hZ X0 e0
  refine Ends.cast (ef_3 m ar i) ?_
  have N0 := Fr.nil n0
  refine Ends.by (fun _ => XS.aloadN X0.here hx rfl (hb hby d3_0) rfl rfl) ?_
  show Ends p e below _ s₁ (mkF m 1 #[.val (.ref ar), .val (.int i)] [(.ref ar)])
  refine Ends.by (fun _ => XS.iloadN X0.here hx rfl (hb hby d3_1) rfl) ?_
  show Ends p e below _ s₁ (mkF m 2 #[.val (.ref ar), .val (.int i)] [(.int i), (.ref ar)])
  refine Ends.ldB X0 hx hZ e0 A0 (k := I) hi hI (v := (.int (g I))) rfl (hb hby d3_2) ?_
  show Ends p e below _ s₁ (mkF m 3 #[.val (.ref ar), .val (.int i)] [(.int (g I))])
  refine Ends.by (fun _ => XS.sipush X0.here hx rfl (hb hby d3_3)) ?_
  show Ends p e below _ s₁ (mkF m 6 #[.val (.ref ar), .val (.int i)] [(.int (192 : Int32)), (.int (g I))])
  refine Ends.by (fun _ => XS.iand X0.here hx rfl (hb hby d3_6) rfl) ?_
  show Ends p e below _ s₁ (mkF m 7 #[.val (.ref ar), .val (.int i)] [(.int ((g I) &&& (192 : Int32)))])
  refine Ends.by (fun _ => XS.sipush X0.here hx rfl (hb hby d3_7)) ?_
  show Ends p e below _ s₁ (mkF m 10 #[.val (.ref ar), .val (.int i)] [(.int (128 : Int32)), (.int ((g I) &&& (192 : Int32)))])
  refine Ends.icmp X0 hx (hb hby d3_10) 17 (by decide) (by decide) (fun q => ?_) (fun q => ?_)
  · have c10 : ((g I) &&& (192 : Int32)) = (128 : Int32) := own_eq.1 q
    show Ends p e below _ s₁ (mkF m 17 #[.val (.ref ar), .val (.int i)] [])
    refine Ends.by (fun _ => XS.iconst X0.here hx rfl (hb hby d3_17)) ?_
    show Ends p e below _ s₁ (mkF m 18 #[.val (.ref ar), .val (.int i)] [(.int (0 : Int32))])
    exact Ends.retZ X0 hx hlk hret (hb hby d3_18) (by first | decide | (simp; done)) (by decide) (by decide) (by rw [e0]; exact ⟨by rw [own_sc, if_pos c10], rfl, rfl⟩)
  · have c10 : ¬ (((g I) &&& (192 : Int32)) = (128 : Int32)) := own_eq.2 q
    show Ends p e below _ s₁ (mkF m 13 #[.val (.ref ar), .val (.int i)] [])
    refine Ends.by (fun _ => XS.iconst X0.here hx rfl (hb hby d3_13)) ?_
    show Ends p e below _ s₁ (mkF m 14 #[.val (.ref ar), .val (.int i)] [(.int (1 : Int32))])
    refine Ends.by (fun _ => XS.goto X0.here hx rfl (pc0 := 14) (pc' := 18) rfl (hb hby d3_14) (by decide) (by decide)) ?_
    show Ends p e below _ s₁ (mkF m 18 #[.val (.ref ar), .val (.int i)] [(.int (1 : Int32))])
    exact Ends.retZ X0 hx hlk hret (hb hby d3_18) (by first | decide | (simp; done)) (by decide) (by decide) (by rw [e0]; exact ⟨by rw [own_sc, if_neg c10], rfl, rfl⟩)
theorem own_lt12 {fr to1 : Int32} {F T : Nat} (hf : fr.toInt = (F : Int)) (ht : to1.toInt = (T : Int)) (hFT : F ≤ T) (hT : T ≤ 12) (h : ¬ fr = to1) : F < 12 := by
  rw [← Int32.toInt_inj, hf, ht] at h; omega
theorem own_t12 {to1 : Int32} {T : Nat} (ht : to1.toInt = (T : Int)) (hT : T ≤ 12) (h : ¬ to1 = (12 : Int32)) : T < 12 := by
  rw [← Int32.toInt_inj, ht] at h; have : (12 : Int32).toInt = 12 := by decide
  omega
theorem d2_0 : decode prog_75_method_3_code 0 = .ok (.iload_n 1, 1) := by decide +kernel
theorem d2_1 : decode prog_75_method_3_code 1 = .ok (.iload_n 2, 1) := by decide +kernel
theorem d2_2 : decode prog_75_method_3_code 2 = .ok (.if_icmp .eq 25, 3) := by decide +kernel
theorem d2_5 : decode prog_75_method_3_code 5 = .ok (.aload_n 0, 1) := by decide +kernel
theorem d2_6 : decode prog_75_method_3_code 6 = .ok (.iload_n 1, 1) := by decide +kernel
theorem d2_7 : decode prog_75_method_3_code 7 = .ok (.invokestatic 16, 3) := by decide +kernel
theorem d2_10 : decode prog_75_method_3_code 10 = .ok (.ifCond .eq 21, 3) := by decide +kernel
theorem d2_13 : decode prog_75_method_3_code 13 = .ok (.iload_n 2, 1) := by decide +kernel
theorem d2_14 : decode prog_75_method_3_code 14 = .ok (.aload_n 0, 1) := by decide +kernel
theorem d2_15 : decode prog_75_method_3_code 15 = .ok (.arraylength, 1) := by decide +kernel
theorem d2_16 : decode prog_75_method_3_code 16 = .ok (.if_icmp .eq 11, 3) := by decide +kernel
theorem d2_19 : decode prog_75_method_3_code 19 = .ok (.aload_n 0, 1) := by decide +kernel
theorem d2_20 : decode prog_75_method_3_code 20 = .ok (.iload_n 2, 1) := by decide +kernel
theorem d2_21 : decode prog_75_method_3_code 21 = .ok (.invokestatic 16, 3) := by decide +kernel
theorem d2_24 : decode prog_75_method_3_code 24 = .ok (.ifCond .eq 7, 3) := by decide +kernel
theorem d2_27 : decode prog_75_method_3_code 27 = .ok (.iconst 1, 1) := by decide +kernel
theorem d2_28 : decode prog_75_method_3_code 28 = .ok (.goto 4, 3) := by decide +kernel
theorem d2_31 : decode prog_75_method_3_code 31 = .ok (.iconst 0, 1) := by decide +kernel
theorem d2_32 : decode prog_75_method_3_code 32 = .ok (.ireturn, 1) := by decide +kernel
theorem pd_2 : parseMethodDescriptor "([BII)Z" = some ⟨[(.array .byte), .int, .int], some .boolean⟩ := by decide +kernel
theorem pf_2 : plainFor (⟨"com/example/vedette/vedette/records/Utf8", "wellFormedPart", "([BII)Z"⟩ : MethodName) = true := plainFor_of_name (by first | (simp [plainName, overriddenIn, x]; done) | decide +kernel)
theorem ef_2 (m : MethodId) (ar : Addr) (fr : Int32) (to1 : Int32) : entryFrame m #[(.ref ar), (.int fr), (.int to1)] 3 = mkF m 0 #[.val (.ref ar), .val (.int fr), .val (.int to1)] [] := by first | (simp [entryFrame, mkF, argsToLocals, Value.category]; done) | rfl
def own_wf (g : Nat → Int32) (fr to1 : Int32) (F T : Nat) : Int32 := if fr = to1 then 1 else if (own_sc (g F)) = (0 : Int32) then 0 else if to1 = (12 : Int32) then 1 else if (own_sc (g T)) = (0 : Int32) then 0 else 1
set_option maxRecDepth 65536 in
set_option maxHeartbeats 40000000 in
theorem con_2 (l : Launch) (Z : State) (a0 : Array Value) (hw : ∀ d ∈ tables_1, d.before a0 Z = true) (ar : Addr) (fr : Int32) (to1 : Int32) (F T : Nat) (g : Nat → Int32) (h0 : Heap) (n0 : Nat) (Z0 : n0 ≤ h0.size) (A0 : Af Z h0 ar .byte 12 (fun q => .int (g q))) (hf : fr.toInt = (F : Int)) (ht : to1.toInt = (T : Int)) (hFT : F ≤ T) (hT : T ≤ 12) : Con l Z (⟨"com/example/vedette/vedette/records/Utf8", "wellFormedPart", "([BII)Z"⟩ : MethodName) prog_75_method_3_code 3 (some .boolean) ({ frames := 1, cells := 0, slots := 0, locals := 13 } : Room) #[(.ref ar), (.int fr), (.int to1)] h0 (Pure h0 (some (.int (own_wf g fr to1 F T)))) := by
  refine Con.intro pf_2 ?_
  intro p e s m below meth c s₁ hx hby hml hown hnm hret hlk hZ X0 e0
  refine Ends.cast (ef_2 m ar fr to1) ?_
  have N0 := Fr.nil n0
  refine Ends.by (fun _ => XS.iloadN X0.here hx rfl (hb hby d2_0) rfl) ?_
  show Ends p e below _ s₁ (mkF m 1 #[.val (.ref ar), .val (.int fr), .val (.int to1)] [(.int fr)])
  refine Ends.by (fun _ => XS.iloadN X0.here hx rfl (hb hby d2_1) rfl) ?_
  show Ends p e below _ s₁ (mkF m 2 #[.val (.ref ar), .val (.int fr), .val (.int to1)] [(.int to1), (.int fr)])
  refine Ends.icmp X0 hx (hb hby d2_2) 27 (by decide) (by decide) (fun q => ?_) (fun q => ?_)
  · have c2 : fr = to1 := own_eq.1 q
    show Ends p e below _ s₁ (mkF m 27 #[.val (.ref ar), .val (.int fr), .val (.int to1)] [])
    refine Ends.by (fun _ => XS.iconst X0.here hx rfl (hb hby d2_27)) ?_
    show Ends p e below _ s₁ (mkF m 28 #[.val (.ref ar), .val (.int fr), .val (.int to1)] [(.int (1 : Int32))])
    refine Ends.by (fun _ => XS.goto X0.here hx rfl (pc0 := 28) (pc' := 32) rfl (hb hby d2_28) (by decide) (by decide)) ?_
    show Ends p e below _ s₁ (mkF m 32 #[.val (.ref ar), .val (.int fr), .val (.int to1)] [(.int (1 : Int32))])
    exact Ends.retZ X0 hx hlk hret (hb hby d2_32) (by first | decide | (simp; done)) (by decide) (by decide) (by rw [e0]; exact ⟨by rw [own_wf, if_pos c2], rfl, rfl⟩)
  · have c2 : ¬ (fr = to1) := own_eq.2 q
    show Ends p e below _ s₁ (mkF m 5 #[.val (.ref ar), .val (.int fr), .val (.int to1)] [])
    refine Ends.by (fun _ => XS.aloadN X0.here hx rfl (hb hby d2_5) rfl rfl) ?_
    show Ends p e below _ s₁ (mkF m 6 #[.val (.ref ar), .val (.int fr), .val (.int to1)] [(.ref ar)])
    refine Ends.by (fun _ => XS.iloadN X0.here hx rfl (hb hby d2_6) rfl) ?_
    show Ends p e below _ s₁ (mkF m 7 #[.val (.ref ar), .val (.int fr), .val (.int to1)] [(.int fr), (.ref ar)])
    refine Ends.callS (argsL := [(.ref ar), (.int fr)]) (rest := []) X0 hx hZ hown (hw _ (List.mem_of_getElem? (i := 15) rfl)) (hw _ (List.mem_of_getElem? (i := 16) rfl)) (hw _ (List.mem_of_getElem? (i := 13) rfl)) (hw _ (List.mem_of_getElem? (i := 17) rfl)) (by decide) (con_3 l Z a0 hw ar fr F g h0 n0 Z0 A0 hf (own_lt12 hf ht hFT hT c2)) e0 (by rw [hml]; rfl) (hb hby d2_7) (lenOf pd_3 rfl) 0 (Nat.le_of_eq rfl) (by decide) (by decide) (by decide) (by decide) ?_
    intro v T1 L1 X1 hQ
    obtain ⟨rfl, e1, rfl⟩ := hQ
    rw [List.append_nil] at X1
    show Ends p e below _ T1 (mkF m 10 #[.val (.ref ar), .val (.int fr), .val (.int to1)] [(.int (own_sc (g F)))])
    refine Ends.ifc X1 hx (hb hby d2_10) 31 (by decide) (by decide) (fun q => ?_) (fun q => ?_)
    · have c10 : (own_sc (g F)) = (0 : Int32) := own_eq.1 q
      show Ends p e below _ T1 (mkF m 31 #[.val (.ref ar), .val (.int fr), .val (.int to1)] [])
      refine Ends.by (fun _ => XS.iconst X1.here hx rfl (hb hby d2_31)) ?_
      show Ends p e below _ T1 (mkF m 32 #[.val (.ref ar), .val (.int fr), .val (.int to1)] [(.int (0 : Int32))])
      exact Ends.retZ X1 hx hlk hret (hb hby d2_32) (by first | decide | (simp; done)) (by decide) (by decide) (by rw [e1]; exact ⟨by rw [own_wf, if_neg c2, if_pos c10], rfl, rfl⟩)
    · have c10 : ¬ ((own_sc (g F)) = (0 : Int32)) := own_eq.2 q
      show Ends p e below _ T1 (mkF m 13 #[.val (.ref ar), .val (.int fr), .val (.int to1)] [])
      refine Ends.by (fun _ => XS.iloadN X1.here hx rfl (hb hby d2_13) rfl) ?_
      show Ends p e below _ T1 (mkF m 14 #[.val (.ref ar), .val (.int fr), .val (.int to1)] [(.int to1)])
      refine Ends.by (fun _ => XS.aloadN X1.here hx rfl (hb hby d2_14) rfl rfl) ?_
      show Ends p e below _ T1 (mkF m 15 #[.val (.ref ar), .val (.int fr), .val (.int to1)] [(.ref ar), (.int to1)])
      refine Ends.len X1 hx hZ e1 A0 (z := (12 : Int32)) (by decide) (hb hby d2_15) ?_
      show Ends p e below _ T1 (mkF m 16 #[.val (.ref ar), .val (.int fr), .val (.int to1)] [(.int (12 : Int32)), (.int to1)])
      refine Ends.icmp X1 hx (hb hby d2_16) 27 (by decide) (by decide) (fun q => ?_) (fun q => ?_)
      · have c16 : to1 = (12 : Int32) := own_eq.1 q
        show Ends p e below _ T1 (mkF m 27 #[.val (.ref ar), .val (.int fr), .val (.int to1)] [])
        refine Ends.by (fun _ => XS.iconst X1.here hx rfl (hb hby d2_27)) ?_
        show Ends p e below _ T1 (mkF m 28 #[.val (.ref ar), .val (.int fr), .val (.int to1)] [(.int (1 : Int32))])
        refine Ends.by (fun _ => XS.goto X1.here hx rfl (pc0 := 28) (pc' := 32) rfl (hb hby d2_28) (by decide) (by decide)) ?_
        show Ends p e below _ T1 (mkF m 32 #[.val (.ref ar), .val (.int fr), .val (.int to1)] [(.int (1 : Int32))])
        exact Ends.retZ X1 hx hlk hret (hb hby d2_32) (by first | decide | (simp; done)) (by decide) (by decide) (by rw [e1]; exact ⟨by rw [own_wf, if_neg c2, if_neg c10, if_pos c16], rfl, rfl⟩)
      · have c16 : ¬ (to1 = (12 : Int32)) := own_eq.2 q
        show Ends p e below _ T1 (mkF m 19 #[.val (.ref ar), .val (.int fr), .val (.int to1)] [])
        refine Ends.by (fun _ => XS.aloadN X1.here hx rfl (hb hby d2_19) rfl rfl) ?_
        show Ends p e below _ T1 (mkF m 20 #[.val (.ref ar), .val (.int fr), .val (.int to1)] [(.ref ar)])
        refine Ends.by (fun _ => XS.iloadN X1.here hx rfl (hb hby d2_20) rfl) ?_
        show Ends p e below _ T1 (mkF m 21 #[.val (.ref ar), .val (.int fr), .val (.int to1)] [(.int to1), (.ref ar)])
        refine Ends.callS (argsL := [(.ref ar), (.int to1)]) (rest := []) X1 hx hZ hown (hw _ (List.mem_of_getElem? (i := 15) rfl)) (hw _ (List.mem_of_getElem? (i := 16) rfl)) (hw _ (List.mem_of_getElem? (i := 13) rfl)) (hw _ (List.mem_of_getElem? (i := 17) rfl)) (by decide) (con_3 l Z a0 hw ar to1 T g h0 n0 Z0 A0 ht (own_t12 ht hT c16)) e1 (by rw [hml]; rfl) (hb hby d2_21) (lenOf pd_3 rfl) 0 (Nat.le_of_eq rfl) (by decide) (by decide) (by decide) (by decide) ?_
        intro v T2 L2 X2 hQ
        obtain ⟨rfl, e2, rfl⟩ := hQ
        rw [List.append_nil] at X2
        show Ends p e below _ T2 (mkF m 24 #[.val (.ref ar), .val (.int fr), .val (.int to1)] [(.int (own_sc (g T)))])
        refine Ends.ifc X2 hx (hb hby d2_24) 31 (by decide) (by decide) (fun q => ?_) (fun q => ?_)
        · have c24 : (own_sc (g T)) = (0 : Int32) := own_eq.1 q
          show Ends p e below _ T2 (mkF m 31 #[.val (.ref ar), .val (.int fr), .val (.int to1)] [])
          refine Ends.by (fun _ => XS.iconst X2.here hx rfl (hb hby d2_31)) ?_
          show Ends p e below _ T2 (mkF m 32 #[.val (.ref ar), .val (.int fr), .val (.int to1)] [(.int (0 : Int32))])
          exact Ends.retZ X2 hx hlk hret (hb hby d2_32) (by first | decide | (simp; done)) (by decide) (by decide) (by rw [e2]; exact ⟨by rw [own_wf, if_neg c2, if_neg c10, if_neg c16, if_pos c24], rfl, rfl⟩)
        · have c24 : ¬ ((own_sc (g T)) = (0 : Int32)) := own_eq.2 q
          show Ends p e below _ T2 (mkF m 27 #[.val (.ref ar), .val (.int fr), .val (.int to1)] [])
          refine Ends.by (fun _ => XS.iconst X2.here hx rfl (hb hby d2_27)) ?_
          show Ends p e below _ T2 (mkF m 28 #[.val (.ref ar), .val (.int fr), .val (.int to1)] [(.int (1 : Int32))])
          refine Ends.by (fun _ => XS.goto X2.here hx rfl (pc0 := 28) (pc' := 32) rfl (hb hby d2_28) (by decide) (by decide)) ?_
          show Ends p e below _ T2 (mkF m 32 #[.val (.ref ar), .val (.int fr), .val (.int to1)] [(.int (1 : Int32))])
          exact Ends.retZ X2 hx hlk hret (hb hby d2_32) (by first | decide | (simp; done)) (by decide) (by decide) (by rw [e2]; exact ⟨by rw [own_wf, if_neg c2, if_neg c10, if_neg c16, if_neg c24], rfl, rfl⟩)
def own_isB (u b1 b2 b3 : Int32) : Int32 := if u = (0 : Int32) then 1 else if u = b1 then 1 else if u = b2 then 1 else if u < b3 then 0 else 1
def own_exp (fr to1 fB tB : Int32) : Int32 := if fr = to1 then 1 else if fB = (0 : Int32) then 0 else if tB = (0 : Int32) then 0 else 1
theorem own_sc1 {y : Int32} (h : Lead y) : own_sc y = 1 := if_neg h
theorem own_sc0 {y : Int32} (h : Cont y) : own_sc y = 0 := if_pos h
theorem own_sum {a b : Int32} {A B : Nat} (ha : a.toInt = (A : Int)) (hb : b.toInt = (B : Int)) (h : A + B ≤ 12) : (a + b).toInt = ((A + B : Nat) : Int) := by
  have e := c_iadd a b
  have r := rng32 (a + b)
  omega
theorem own_key {g1 g2 g3 : Nat → Int32} {n1 n2 n3 I : Nat} {u b1 b2 b3 : Int32} (P1 : Put (fun _ => 0) g1 0 n1) (P2 : Put g1 g2 n1 n2) (P3 : Put g2 g3 (n1 + n2) n3) (l1 : 1 ≤ n1) (l2 : 1 ≤ n2) (l3 : 1 ≤ n3)
    (hu : u.toInt = (I : Int)) (h1 : b1.toInt = (n1 : Int)) (h2 : b2.toInt = ((n1 + n2 : Nat) : Int)) (h3 : b3.toInt = ((n1 + n2 + n3 : Nat) : Int)) : own_sc (g3 I) = own_isB u b1 b2 b3 := by
  obtain ⟨p1, p2, p3⟩ := P1
  obtain ⟨q1, q2, q3⟩ := P2
  obtain ⟨r1, r2, r3⟩ := P3
  have e0 : (0 : Int32).toInt = 0 := by decide
  have d0 : u = 0 ↔ I = 0 := by rw [← Int32.toInt_inj]; omega
  have d1 : u = b1 ↔ I = n1 := by rw [← Int32.toInt_inj]; omega
  have d2 : u = b2 ↔ I = n1 + n2 := by rw [← Int32.toInt_inj]; omega
  have d3 : u < b3 ↔ I < n1 + n2 + n3 := by rw [Int32.lt_iff_toInt_lt]; omega
  unfold own_isB
  by_cases c0 : I = 0
  · rw [if_pos (d0.mpr c0)]
    apply own_sc1
    rw [c0, r3 0 (by omega), q3 0 (by omega)]; exact p1
  rw [if_neg (fun z => c0 (d0.mp z))]
  by_cases c1 : I = n1
  · rw [if_pos (d1.mpr c1)]
    apply own_sc1
    rw [c1, r3 n1 (by omega)]; exact q1
  rw [if_neg (fun z => c1 (d1.mp z))]
  by_cases c2 : I = n1 + n2
  · rw [if_pos (d2.mpr c2)]
    apply own_sc1
    rw [c2]; exact r1
  rw [if_neg (fun z => c2 (d2.mp z))]
  by_cases c3 : I < n1 + n2 + n3
  · rw [if_pos (d3.mpr c3)]
    apply own_sc0
    by_cases k1 : I < n1
    · rw [r3 I (by omega), q3 I (by omega)]; exact p2 I (by omega) (by omega)
    by_cases k2 : I < n1 + n2
    · rw [r3 I (by omega)]; exact q2 I (by omega) (by omega)
    exact r2 I (by omega) (by omega)
  · rw [if_neg (fun z => c3 (d3.mp z))]
    rw [r3 I (by omega), q3 I (by omega), p3 I (by omega)]
    exact (show own_sc 0 = 1 from by decide)
theorem own_final {g1 g2 g3 : Nat → Int32} {n1 n2 n3 F T : Nat} {fr to1 b1 b2 b3 : Int32} (P1 : Put (fun _ => 0) g1 0 n1) (P2 : Put g1 g2 n1 n2) (P3 : Put g2 g3 (n1 + n2) n3) (l1 : 1 ≤ n1) (l2 : 1 ≤ n2) (l3 : 1 ≤ n3) (u1 : n1 ≤ 4) (u2 : n2 ≤ 4) (u3 : n3 ≤ 4)
    (hf : fr.toInt = (F : Int)) (ht : to1.toInt = (T : Int)) (hFT : F ≤ T) (hT : T ≤ 12) (h1 : b1.toInt = (n1 : Int)) (h2 : b2.toInt = ((n1 + n2 : Nat) : Int)) (h3 : b3.toInt = ((n1 + n2 + n3 : Nat) : Int)) :
    own_wf g3 fr to1 F T = own_exp fr to1 (own_isB fr b1 b2 b3) (own_isB to1 b1 b2 b3) := by
  unfold own_wf own_exp
  rw [own_key P1 P2 P3 l1 l2 l3 hf h1 h2 h3, own_key P1 P2 P3 l1 l2 l3 ht h1 h2 h3]
  by_cases c12 : to1 = 12
  · have e : own_isB to1 b1 b2 b3 = 1 := by
      unfold own_isB
      have e0 : (12 : Int32).toInt = 12 := by decide
      have c : to1.toInt = 12 := by rw [c12]; exact e0
      rw [if_neg (c := to1 < b3) (by rw [Int32.lt_iff_toInt_lt]; omega)]
      repeat' split
      all_goals rfl
    rw [e, if_pos c12]
    rw [if_neg (c := (1 : Int32) = 0) (by decide)]
  · rw [if_neg c12]
theorem own_from (i : Int32) : ∃ F : Nat, ((i &&& 2147483647) % 13).toInt = (F : Int) ∧ F ≤ 12 := by
  have e1 : (i &&& 2147483647).toInt = i.toInt % (2 ^ 31 : Nat) := c_mask i 2147483647 31 (by decide) (by decide)
  have e2 := (c_irem (i &&& 2147483647) 13 13 (by decide)).1 (by omega)
  exact ⟨((i &&& 2147483647) % 13).toInt.toNat, by omega, by omega⟩
theorem own_13 {fr : Int32} {F : Nat} (hf : fr.toInt = (F : Int)) (hF : F ≤ 12) : ((13 : Int32) - fr).toInt = 13 - (F : Int) := by
  have e := c_isub 13 fr
  have r := rng32 (13 - fr)
  have e4 : (13 : Int32).toInt = 13 := by decide
  omega
theorem own_13nz {fr : Int32} {F : Nat} (hf : fr.toInt = (F : Int)) (hF : F ≤ 12) : (13 : Int32) - fr ≠ 0 := by
  intro q
  have e := own_13 hf hF
  rw [q] at e
  have e4 : (0 : Int32).toInt = 0 := by decide
  omega
theorem own_to {fr : Int32} {F : Nat} (hf : fr.toInt = (F : Int)) (hF : F ≤ 12) (i : Int32) : ∃ T : Nat, (fr + (i &&& 2147483647) % ((13 : Int32) - fr)).toInt = (T : Int) ∧ F ≤ T ∧ T ≤ 12 := by
  have e := own_13 hf hF
  have e1 : (i &&& 2147483647).toInt = i.toInt % (2 ^ 31 : Nat) := c_mask i 2147483647 31 (by decide) (by decide)
  have e2 := (c_iremV (i &&& 2147483647) (13 - fr)).1 (by omega) (by omega)
  have e3 := c_iadd fr ((i &&& 2147483647) % (13 - fr))
  have r := rng32 (fr + (i &&& 2147483647) % (13 - fr))
  exact ⟨(fr + (i &&& 2147483647) % (13 - fr)).toInt.toNat, by omega, by omega, by omega⟩
theorem pd_0 : parseMethodDescriptor "(IIIII)Z" = some ⟨[.int, .int, .int, .int, .int], some .boolean⟩ := by decide +kernel
theorem pf_0 : plainFor x = true := plainFor_of_name (by first | (simp [plainName, overriddenIn, x]; done) | decide +kernel)
theorem ef_0 (m : MethodId) (i0 : Int32) (i1 : Int32) (i2 : Int32) (i3 : Int32) (i4 : Int32) : entryFrame m #[(.int i0), (.int i1), (.int i2), (.int i3), (.int i4)] maxLocals = mkF m 0 #[.val (.int i0), .val (.int i1), .val (.int i2), .val (.int i3), .val (.int i4), .unset, .unset, .unset, .unset, .unset, .unset, .unset, .unset, .unset, .unset, .unset, .unset] [] := by first | (simp [entryFrame, mkF, argsToLocals, Value.category, maxLocals]; done) | rfl
set_option maxRecDepth 65536 in
set_option maxHeartbeats 40000000 in
theorem con_0 (l : Launch) (Z : State) (a0 : Array Value) (hw : ∀ d ∈ tables_1, d.before a0 Z = true) (i0 : Int32) (i1 : Int32) (i2 : Int32) (i3 : Int32) (i4 : Int32)  (h0 : Heap) (n0 : Nat) (Z0 : n0 ≤ h0.size) : Con l Z x code maxLocals ret room_1 #[(.int i0), (.int i1), (.int i2), (.int i3), (.int i4)] h0 (fun v h L => v = some (.int 1) ∧ Fr n0 L) := by
  refine Con.intro pf_0 ?_
  intro p e s m below meth c s₁ hx hby hml hown hnm hret hlk hZ X0 e0
  refine Ends.cast (ef_0 m i0 i1 i2 i3 i4) ?_
  have N0 := Fr.nil n0
  refine Ends.by (fun _ => XS.bipush X0.here hx rfl (hb hby at_0)) ?_
  show Ends p e below _ s₁ (mkF m 2 #[.val (.int i0), .val (.int i1), .val (.int i2), .val (.int i3), .val (.int i4), .unset, .unset, .unset, .unset, .unset, .unset, .unset, .unset, .unset, .unset, .unset, .unset] [(.int (12 : Int32))])
  refine Ends.newA X0 hx hZ (hw _ (List.mem_of_getElem? (i := 0) rfl)) e0 (n := 12) (by decide) 12 (by decide) (by decide) (by decide) (by decide) rfl (ad := "[B") (by decide) (hb hby at_2) ?_
  intro T1 h1 b1 g1 X1 e1 E1 A1 Q1
  have Z1 : n0 ≤ h1.size := Nat.le_trans Z0 E1.1
  have g_b1 : n0 ≤ b1 := Nat.le_trans Z0 (Nat.le_of_eq g1.symm)
  have A_b1 : Af Z h1 b1 .byte 12 (fun q => .int ((fun _ => (0 : Int32)) q)) := A1
  show Ends p e below _ T1 (mkF m 4 #[.val (.int i0), .val (.int i1), .val (.int i2), .val (.int i3), .val (.int i4), .unset, .unset, .unset, .unset, .unset, .unset, .unset, .unset, .unset, .unset, .unset, .unset] [(.ref b1)])
  refine Ends.by (fun _ => XS.astore X1.here hx rfl (hb hby at_4) rfl rfl (l' := #[.val (.int i0), .val (.int i1), .val (.int i2), .val (.int i3), .val (.int i4), .val (.ref b1), .unset, .unset, .unset, .unset, .unset, .unset, .unset, .unset, .unset, .unset, .unset]) rfl) ?_
  show Ends p e below _ T1 (mkF m 6 #[.val (.int i0), .val (.int i1), .val (.int i2), .val (.int i3), .val (.int i4), .val (.ref b1), .unset, .unset, .unset, .unset, .unset, .unset, .unset, .unset, .unset, .unset, .unset] [])
  refine Ends.by (fun _ => XS.aload X1.here hx rfl (hb hby at_6) rfl rfl) ?_
  show Ends p e below _ T1 (mkF m 8 #[.val (.int i0), .val (.int i1), .val (.int i2), .val (.int i3), .val (.int i4), .val (.ref b1), .unset, .unset, .unset, .unset, .unset, .unset, .unset, .unset, .unset, .unset, .unset] [(.ref b1)])
  refine Ends.by (fun _ => XS.iconst X1.here hx rfl (hb hby at_8)) ?_
  show Ends p e below _ T1 (mkF m 9 #[.val (.int i0), .val (.int i1), .val (.int i2), .val (.int i3), .val (.int i4), .val (.ref b1), .unset, .unset, .unset, .unset, .unset, .unset, .unset, .unset, .unset, .unset, .unset] [(.int (0 : Int32)), (.ref b1)])
  refine Ends.by (fun _ => XS.iloadN X1.here hx rfl (hb hby at_9) rfl) ?_
  show Ends p e below _ T1 (mkF m 10 #[.val (.int i0), .val (.int i1), .val (.int i2), .val (.int i3), .val (.int i4), .val (.ref b1), .unset, .unset, .unset, .unset, .unset, .unset, .unset, .unset, .unset, .unset, .unset] [(.int i0), (.int (0 : Int32)), (.ref b1)])
  refine Ends.callS (argsL := [(.ref b1), (.int (0 : Int32)), (.int i0)]) (rest := []) X1 hx hZ hown (hw _ (List.mem_of_getElem? (i := 1) rfl)) (hw _ (List.mem_of_getElem? (i := 2) rfl)) (hw _ (List.mem_of_getElem? (i := 3) rfl)) (hw _ (List.mem_of_getElem? (i := 4) rfl)) (by decide) (con_1 l Z a0 hw b1 (0 : Int32) i0 0 (fun _ => (0 : Int32)) h1 n0 Z1 A_b1 (by decide) (by decide) g_b1) e1 (by rw [hml]; rfl) (hb hby at_10) (lenOf pd_1 rfl) 0 (Nat.le_of_eq rfl) (by decide) (by decide) (by decide) (by decide) ?_
  intro v T2 L2 X2 hQ
  obtain ⟨n1, g1, z1, rfl, hz1, l1, u1, N2q, K2q, A2q, P1⟩ := hQ
  have N2 := Fr.app N0 N2q
  have E_b1_2 : Exa Z T2.heap b1 "[B" := Q1.keep K2q
  have Z2 : n0 ≤ T2.heap.size := Nat.le_trans Z1 K2q.1
  show Ends p e below _ T2 (mkF m 13 #[.val (.int i0), .val (.int i1), .val (.int i2), .val (.int i3), .val (.int i4), .val (.ref b1), .unset, .unset, .unset, .unset, .unset, .unset, .unset, .unset, .unset, .unset, .unset] [(.int z1)])
  refine Ends.by (fun _ => XS.istore X2.here hx rfl (hb hby at_13) rfl (l' := #[.val (.int i0), .val (.int i1), .val (.int i2), .val (.int i3), .val (.int i4), .val (.ref b1), .val (.int z1), .unset, .unset, .unset, .unset, .unset, .unset, .unset, .unset, .unset, .unset]) rfl) ?_
  show Ends p e below _ T2 (mkF m 15 #[.val (.int i0), .val (.int i1), .val (.int i2), .val (.int i3), .val (.int i4), .val (.ref b1), .val (.int z1), .unset, .unset, .unset, .unset, .unset, .unset, .unset, .unset, .unset, .unset] [])
  refine Ends.by (fun _ => XS.aload X2.here hx rfl (hb hby at_15) rfl rfl) ?_
  show Ends p e below _ T2 (mkF m 17 #[.val (.int i0), .val (.int i1), .val (.int i2), .val (.int i3), .val (.int i4), .val (.ref b1), .val (.int z1), .unset, .unset, .unset, .unset, .unset, .unset, .unset, .unset, .unset, .unset] [(.ref b1)])
  refine Ends.by (fun _ => XS.iload X2.here hx rfl (hb hby at_17) rfl) ?_
  show Ends p e below _ T2 (mkF m 19 #[.val (.int i0), .val (.int i1), .val (.int i2), .val (.int i3), .val (.int i4), .val (.ref b1), .val (.int z1), .unset, .unset, .unset, .unset, .unset, .unset, .unset, .unset, .unset, .unset] [(.int z1), (.ref b1)])
  refine Ends.by (fun _ => XS.iloadN X2.here hx rfl (hb hby at_19) rfl) ?_
  show Ends p e below _ T2 (mkF m 20 #[.val (.int i0), .val (.int i1), .val (.int i2), .val (.int i3), .val (.int i4), .val (.ref b1), .val (.int z1), .unset, .unset, .unset, .unset, .unset, .unset, .unset, .unset, .unset, .unset] [(.int i1), (.int z1), (.ref b1)])
  refine Ends.callS (argsL := [(.ref b1), (.int z1), (.int i1)]) (rest := []) X2 hx hZ hown (hw _ (List.mem_of_getElem? (i := 1) rfl)) (hw _ (List.mem_of_getElem? (i := 2) rfl)) (hw _ (List.mem_of_getElem? (i := 3) rfl)) (hw _ (List.mem_of_getElem? (i := 4) rfl)) (by decide) (con_1 l Z a0 hw b1 z1 i1 n1 g1 T2.heap n0 Z2 A2q hz1 (by omega) g_b1) rfl (by rw [hml]; rfl) (hb hby at_20) (lenOf pd_1 rfl) 0 (Nat.le_of_eq rfl) (by decide) (by decide) (by decide) (by decide) ?_
  intro v T3 L3 X3 hQ
  obtain ⟨n2, g2, z2, rfl, hz2, l2, u2, N3q, K3q, A3q, P2⟩ := hQ
  have N3 := Fr.app N2 N3q
  have E_b1_3 : Exa Z T3.heap b1 "[B" := E_b1_2.keep K3q
  have Z3 : n0 ≤ T3.heap.size := Nat.le_trans Z2 K3q.1
  show Ends p e below _ T3 (mkF m 23 #[.val (.int i0), .val (.int i1), .val (.int i2), .val (.int i3), .val (.int i4), .val (.ref b1), .val (.int z1), .unset, .unset, .unset, .unset, .unset, .unset, .unset, .unset, .unset, .unset] [(.int z2)])
  refine Ends.by (fun _ => XS.istore X3.here hx rfl (hb hby at_23) rfl (l' := #[.val (.int i0), .val (.int i1), .val (.int i2), .val (.int i3), .val (.int i4), .val (.ref b1), .val (.int z1), .val (.int z2), .unset, .unset, .unset, .unset, .unset, .unset, .unset, .unset, .unset]) rfl) ?_
  show Ends p e below _ T3 (mkF m 25 #[.val (.int i0), .val (.int i1), .val (.int i2), .val (.int i3), .val (.int i4), .val (.ref b1), .val (.int z1), .val (.int z2), .unset, .unset, .unset, .unset, .unset, .unset, .unset, .unset, .unset] [])
  refine Ends.by (fun _ => XS.aload X3.here hx rfl (hb hby at_25) rfl rfl) ?_
  show Ends p e below _ T3 (mkF m 27 #[.val (.int i0), .val (.int i1), .val (.int i2), .val (.int i3), .val (.int i4), .val (.ref b1), .val (.int z1), .val (.int z2), .unset, .unset, .unset, .unset, .unset, .unset, .unset, .unset, .unset] [(.ref b1)])
  refine Ends.by (fun _ => XS.iload X3.here hx rfl (hb hby at_27) rfl) ?_
  show Ends p e below _ T3 (mkF m 29 #[.val (.int i0), .val (.int i1), .val (.int i2), .val (.int i3), .val (.int i4), .val (.ref b1), .val (.int z1), .val (.int z2), .unset, .unset, .unset, .unset, .unset, .unset, .unset, .unset, .unset] [(.int z1), (.ref b1)])
  refine Ends.by (fun _ => XS.iload X3.here hx rfl (hb hby at_29) rfl) ?_
  show Ends p e below _ T3 (mkF m 31 #[.val (.int i0), .val (.int i1), .val (.int i2), .val (.int i3), .val (.int i4), .val (.ref b1), .val (.int z1), .val (.int z2), .unset, .unset, .unset, .unset, .unset, .unset, .unset, .unset, .unset] [(.int z2), (.int z1), (.ref b1)])
  refine Ends.by (fun _ => XS.iadd X3.here hx rfl (hb hby at_31) rfl) ?_
  show Ends p e below _ T3 (mkF m 32 #[.val (.int i0), .val (.int i1), .val (.int i2), .val (.int i3), .val (.int i4), .val (.ref b1), .val (.int z1), .val (.int z2), .unset, .unset, .unset, .unset, .unset, .unset, .unset, .unset, .unset] [(.int (z1 + z2)), (.ref b1)])
  refine Ends.by (fun _ => XS.iloadN X3.here hx rfl (hb hby at_32) rfl) ?_
  show Ends p e below _ T3 (mkF m 33 #[.val (.int i0), .val (.int i1), .val (.int i2), .val (.int i3), .val (.int i4), .val (.ref b1), .val (.int z1), .val (.int z2), .unset, .unset, .unset, .unset, .unset, .unset, .unset, .unset, .unset] [(.int i2), (.int (z1 + z2)), (.ref b1)])
  refine Ends.callS (argsL := [(.ref b1), (.int (z1 + z2)), (.int i2)]) (rest := []) X3 hx hZ hown (hw _ (List.mem_of_getElem? (i := 1) rfl)) (hw _ (List.mem_of_getElem? (i := 2) rfl)) (hw _ (List.mem_of_getElem? (i := 3) rfl)) (hw _ (List.mem_of_getElem? (i := 4) rfl)) (by decide) (con_1 l Z a0 hw b1 (z1 + z2) i2 (n1 + n2) g2 T3.heap n0 Z3 A3q (own_sum hz1 hz2 (by omega)) (by omega) g_b1) rfl (by rw [hml]; rfl) (hb hby at_33) (lenOf pd_1 rfl) 0 (Nat.le_of_eq rfl) (by decide) (by decide) (by decide) (by decide) ?_
  intro v T4 L4 X4 hQ
  obtain ⟨n3, g3, z3, rfl, hz3, l3, u3, N4q, K4q, A4q, P3⟩ := hQ
  have N4 := Fr.app N3 N4q
  have E_b1_4 : Exa Z T4.heap b1 "[B" := E_b1_3.keep K4q
  have Z4 : n0 ≤ T4.heap.size := Nat.le_trans Z3 K4q.1
  show Ends p e below _ T4 (mkF m 36 #[.val (.int i0), .val (.int i1), .val (.int i2), .val (.int i3), .val (.int i4), .val (.ref b1), .val (.int z1), .val (.int z2), .unset, .unset, .unset, .unset, .unset, .unset, .unset, .unset, .unset] [(.int z3)])
  refine Ends.by (fun _ => XS.istore X4.here hx rfl (hb hby at_36) rfl (l' := #[.val (.int i0), .val (.int i1), .val (.int i2), .val (.int i3), .val (.int i4), .val (.ref b1), .val (.int z1), .val (.int z2), .val (.int z3), .unset, .unset, .unset, .unset, .unset, .unset, .unset, .unset]) rfl) ?_
  show Ends p e below _ T4 (mkF m 38 #[.val (.int i0), .val (.int i1), .val (.int i2), .val (.int i3), .val (.int i4), .val (.ref b1), .val (.int z1), .val (.int z2), .val (.int z3), .unset, .unset, .unset, .unset, .unset, .unset, .unset, .unset] [])
  refine Ends.by (fun _ => XS.iload X4.here hx rfl (hb hby at_38) rfl) ?_
  show Ends p e below _ T4 (mkF m 40 #[.val (.int i0), .val (.int i1), .val (.int i2), .val (.int i3), .val (.int i4), .val (.ref b1), .val (.int z1), .val (.int z2), .val (.int z3), .unset, .unset, .unset, .unset, .unset, .unset, .unset, .unset] [(.int z1)])
  refine Ends.by (fun _ => XS.istore X4.here hx rfl (hb hby at_40) rfl (l' := #[.val (.int i0), .val (.int i1), .val (.int i2), .val (.int i3), .val (.int i4), .val (.ref b1), .val (.int z1), .val (.int z2), .val (.int z3), .val (.int z1), .unset, .unset, .unset, .unset, .unset, .unset, .unset]) rfl) ?_
  show Ends p e below _ T4 (mkF m 42 #[.val (.int i0), .val (.int i1), .val (.int i2), .val (.int i3), .val (.int i4), .val (.ref b1), .val (.int z1), .val (.int z2), .val (.int z3), .val (.int z1), .unset, .unset, .unset, .unset, .unset, .unset, .unset] [])
  refine Ends.by (fun _ => XS.iload X4.here hx rfl (hb hby at_42) rfl) ?_
  show Ends p e below _ T4 (mkF m 44 #[.val (.int i0), .val (.int i1), .val (.int i2), .val (.int i3), .val (.int i4), .val (.ref b1), .val (.int z1), .val (.int z2), .val (.int z3), .val (.int z1), .unset, .unset, .unset, .unset, .unset, .unset, .unset] [(.int z1)])
  refine Ends.by (fun _ => XS.iload X4.here hx rfl (hb hby at_44) rfl) ?_
  show Ends p e below _ T4 (mkF m 46 #[.val (.int i0), .val (.int i1), .val (.int i2), .val (.int i3), .val (.int i4), .val (.ref b1), .val (.int z1), .val (.int z2), .val (.int z3), .val (.int z1), .unset, .unset, .unset, .unset, .unset, .unset, .unset] [(.int z2), (.int z1)])
  refine Ends.by (fun _ => XS.iadd X4.here hx rfl (hb hby at_46) rfl) ?_
  show Ends p e below _ T4 (mkF m 47 #[.val (.int i0), .val (.int i1), .val (.int i2), .val (.int i3), .val (.int i4), .val (.ref b1), .val (.int z1), .val (.int z2), .val (.int z3), .val (.int z1), .unset, .unset, .unset, .unset, .unset, .unset, .unset] [(.int (z1 + z2))])
  refine Ends.by (fun _ => XS.istore X4.here hx rfl (hb hby at_47) rfl (l' := #[.val (.int i0), .val (.int i1), .val (.int i2), .val (.int i3), .val (.int i4), .val (.ref b1), .val (.int z1), .val (.int z2), .val (.int z3), .val (.int z1), .val (.int (z1 + z2)), .unset, .unset, .unset, .unset, .unset, .unset]) rfl) ?_
  show Ends p e below _ T4 (mkF m 49 #[.val (.int i0), .val (.int i1), .val (.int i2), .val (.int i3), .val (.int i4), .val (.ref b1), .val (.int z1), .val (.int z2), .val (.int z3), .val (.int z1), .val (.int (z1 + z2)), .unset, .unset, .unset, .unset, .unset, .unset] [])
  refine Ends.by (fun _ => XS.iload X4.here hx rfl (hb hby at_49) rfl) ?_
  show Ends p e below _ T4 (mkF m 51 #[.val (.int i0), .val (.int i1), .val (.int i2), .val (.int i3), .val (.int i4), .val (.ref b1), .val (.int z1), .val (.int z2), .val (.int z3), .val (.int z1), .val (.int (z1 + z2)), .unset, .unset, .unset, .unset, .unset, .unset] [(.int z1)])
  refine Ends.by (fun _ => XS.iload X4.here hx rfl (hb hby at_51) rfl) ?_
  show Ends p e below _ T4 (mkF m 53 #[.val (.int i0), .val (.int i1), .val (.int i2), .val (.int i3), .val (.int i4), .val (.ref b1), .val (.int z1), .val (.int z2), .val (.int z3), .val (.int z1), .val (.int (z1 + z2)), .unset, .unset, .unset, .unset, .unset, .unset] [(.int z2), (.int z1)])
  refine Ends.by (fun _ => XS.iadd X4.here hx rfl (hb hby at_53) rfl) ?_
  show Ends p e below _ T4 (mkF m 54 #[.val (.int i0), .val (.int i1), .val (.int i2), .val (.int i3), .val (.int i4), .val (.ref b1), .val (.int z1), .val (.int z2), .val (.int z3), .val (.int z1), .val (.int (z1 + z2)), .unset, .unset, .unset, .unset, .unset, .unset] [(.int (z1 + z2))])
  refine Ends.by (fun _ => XS.iload X4.here hx rfl (hb hby at_54) rfl) ?_
  show Ends p e below _ T4 (mkF m 56 #[.val (.int i0), .val (.int i1), .val (.int i2), .val (.int i3), .val (.int i4), .val (.ref b1), .val (.int z1), .val (.int z2), .val (.int z3), .val (.int z1), .val (.int (z1 + z2)), .unset, .unset, .unset, .unset, .unset, .unset] [(.int z3), (.int (z1 + z2))])
  refine Ends.by (fun _ => XS.iadd X4.here hx rfl (hb hby at_56) rfl) ?_
  show Ends p e below _ T4 (mkF m 57 #[.val (.int i0), .val (.int i1), .val (.int i2), .val (.int i3), .val (.int i4), .val (.ref b1), .val (.int z1), .val (.int z2), .val (.int z3), .val (.int z1), .val (.int (z1 + z2)), .unset, .unset, .unset, .unset, .unset, .unset] [(.int ((z1 + z2) + z3))])
  refine Ends.by (fun _ => XS.istore X4.here hx rfl (hb hby at_57) rfl (l' := #[.val (.int i0), .val (.int i1), .val (.int i2), .val (.int i3), .val (.int i4), .val (.ref b1), .val (.int z1), .val (.int z2), .val (.int z3), .val (.int z1), .val (.int (z1 + z2)), .val (.int ((z1 + z2) + z3)), .unset, .unset, .unset, .unset, .unset]) rfl) ?_
  show Ends p e below _ T4 (mkF m 59 #[.val (.int i0), .val (.int i1), .val (.int i2), .val (.int i3), .val (.int i4), .val (.ref b1), .val (.int z1), .val (.int z2), .val (.int z3), .val (.int z1), .val (.int (z1 + z2)), .val (.int ((z1 + z2) + z3)), .unset, .unset, .unset, .unset, .unset] [])
  refine Ends.by (fun _ => XS.iloadN X4.here hx rfl (hb hby at_59) rfl) ?_
  show Ends p e below _ T4 (mkF m 60 #[.val (.int i0), .val (.int i1), .val (.int i2), .val (.int i3), .val (.int i4), .val (.ref b1), .val (.int z1), .val (.int z2), .val (.int z3), .val (.int z1), .val (.int (z1 + z2)), .val (.int ((z1 + z2) + z3)), .unset, .unset, .unset, .unset, .unset] [(.int i3)])
  refine Ends.by (X4.ldcInt hx hown (mvT hZ (hw _ (List.mem_of_getElem? (i := 10) rfl))) (g := (mkF m 60 #[.val (.int i0), .val (.int i1), .val (.int i2), .val (.int i3), .val (.int i4), .val (.ref b1), .val (.int z1), .val (.int z2), .val (.int z3), .val (.int z1), .val (.int (z1 + z2)), .val (.int ((z1 + z2) + z3)), .unset, .unset, .unset, .unset, .unset] [(.int i3)])) rfl (hb hby at_60)) ?_
  show Ends p e below _ T4 (mkF m 62 #[.val (.int i0), .val (.int i1), .val (.int i2), .val (.int i3), .val (.int i4), .val (.ref b1), .val (.int z1), .val (.int z2), .val (.int z3), .val (.int z1), .val (.int (z1 + z2)), .val (.int ((z1 + z2) + z3)), .unset, .unset, .unset, .unset, .unset] [(.int (2147483647 : Int32)), (.int i3)])
  refine Ends.by (fun _ => XS.iand X4.here hx rfl (hb hby at_62) rfl) ?_
  show Ends p e below _ T4 (mkF m 63 #[.val (.int i0), .val (.int i1), .val (.int i2), .val (.int i3), .val (.int i4), .val (.ref b1), .val (.int z1), .val (.int z2), .val (.int z3), .val (.int z1), .val (.int (z1 + z2)), .val (.int ((z1 + z2) + z3)), .unset, .unset, .unset, .unset, .unset] [(.int (i3 &&& (2147483647 : Int32)))])
  refine Ends.by (fun _ => XS.bipush X4.here hx rfl (hb hby at_63)) ?_
  show Ends p e below _ T4 (mkF m 65 #[.val (.int i0), .val (.int i1), .val (.int i2), .val (.int i3), .val (.int i4), .val (.ref b1), .val (.int z1), .val (.int z2), .val (.int z3), .val (.int z1), .val (.int (z1 + z2)), .val (.int ((z1 + z2) + z3)), .unset, .unset, .unset, .unset, .unset] [(.int (13 : Int32)), (.int (i3 &&& (2147483647 : Int32)))])
  refine Ends.by (fun _ => iremM (g := (mkF m 65 #[.val (.int i0), .val (.int i1), .val (.int i2), .val (.int i3), .val (.int i4), .val (.ref b1), .val (.int z1), .val (.int z2), .val (.int z3), .val (.int z1), .val (.int (z1 + z2)), .val (.int ((z1 + z2) + z3)), .unset, .unset, .unset, .unset, .unset] [(.int (13 : Int32)), (.int (i3 &&& (2147483647 : Int32)))])) X4 hx rfl (hb hby at_65) rfl (by decide)) ?_
  show Ends p e below _ T4 (mkF m 66 #[.val (.int i0), .val (.int i1), .val (.int i2), .val (.int i3), .val (.int i4), .val (.ref b1), .val (.int z1), .val (.int z2), .val (.int z3), .val (.int z1), .val (.int (z1 + z2)), .val (.int ((z1 + z2) + z3)), .unset, .unset, .unset, .unset, .unset] [(.int ((i3 &&& (2147483647 : Int32)) % (13 : Int32)))])
  refine Ends.by (fun _ => XS.istore X4.here hx rfl (hb hby at_66) rfl (l' := #[.val (.int i0), .val (.int i1), .val (.int i2), .val (.int i3), .val (.int i4), .val (.ref b1), .val (.int z1), .val (.int z2), .val (.int z3), .val (.int z1), .val (.int (z1 + z2)), .val (.int ((z1 + z2) + z3)), .val (.int ((i3 &&& (2147483647 : Int32)) % (13 : Int32))), .unset, .unset, .unset, .unset]) rfl) ?_
  show Ends p e below _ T4 (mkF m 68 #[.val (.int i0), .val (.int i1), .val (.int i2), .val (.int i3), .val (.int i4), .val (.ref b1), .val (.int z1), .val (.int z2), .val (.int z3), .val (.int z1), .val (.int (z1 + z2)), .val (.int ((z1 + z2) + z3)), .val (.int ((i3 &&& (2147483647 : Int32)) % (13 : Int32))), .unset, .unset, .unset, .unset] [])
  have hfr := own_from i3
  generalize ((i3 &&& (2147483647 : Int32)) % (13 : Int32)) = fr at hfr ⊢
  obtain ⟨F, hf, hF⟩ := hfr
  show Ends p e below _ T4 (mkF m 68 #[.val (.int i0), .val (.int i1), .val (.int i2), .val (.int i3), .val (.int i4), .val (.ref b1), .val (.int z1), .val (.int z2), .val (.int z3), .val (.int z1), .val (.int (z1 + z2)), .val (.int ((z1 + z2) + z3)), .val (.int fr), .unset, .unset, .unset, .unset] [])
  refine Ends.by (fun _ => XS.iload X4.here hx rfl (hb hby at_68) rfl) ?_
  show Ends p e below _ T4 (mkF m 70 #[.val (.int i0), .val (.int i1), .val (.int i2), .val (.int i3), .val (.int i4), .val (.ref b1), .val (.int z1), .val (.int z2), .val (.int z3), .val (.int z1), .val (.int (z1 + z2)), .val (.int ((z1 + z2) + z3)), .val (.int fr), .unset, .unset, .unset, .unset] [(.int fr)])
  refine Ends.by (fun _ => XS.iload X4.here hx rfl (hb hby at_70) rfl) ?_
  show Ends p e below _ T4 (mkF m 72 #[.val (.int i0), .val (.int i1), .val (.int i2), .val (.int i3), .val (.int i4), .val (.ref b1), .val (.int z1), .val (.int z2), .val (.int z3), .val (.int z1), .val (.int (z1 + z2)), .val (.int ((z1 + z2) + z3)), .val (.int fr), .unset, .unset, .unset, .unset] [(.int i4), (.int fr)])
  refine Ends.by (X4.ldcInt hx hown (mvT hZ (hw _ (List.mem_of_getElem? (i := 10) rfl))) (g := (mkF m 72 #[.val (.int i0), .val (.int i1), .val (.int i2), .val (.int i3), .val (.int i4), .val (.ref b1), .val (.int z1), .val (.int z2), .val (.int z3), .val (.int z1), .val (.int (z1 + z2)), .val (.int ((z1 + z2) + z3)), .val (.int fr), .unset, .unset, .unset, .unset] [(.int i4), (.int fr)])) rfl (hb hby at_72)) ?_
  show Ends p e below _ T4 (mkF m 74 #[.val (.int i0), .val (.int i1), .val (.int i2), .val (.int i3), .val (.int i4), .val (.ref b1), .val (.int z1), .val (.int z2), .val (.int z3), .val (.int z1), .val (.int (z1 + z2)), .val (.int ((z1 + z2) + z3)), .val (.int fr), .unset, .unset, .unset, .unset] [(.int (2147483647 : Int32)), (.int i4), (.int fr)])
  refine Ends.by (fun _ => XS.iand X4.here hx rfl (hb hby at_74) rfl) ?_
  show Ends p e below _ T4 (mkF m 75 #[.val (.int i0), .val (.int i1), .val (.int i2), .val (.int i3), .val (.int i4), .val (.ref b1), .val (.int z1), .val (.int z2), .val (.int z3), .val (.int z1), .val (.int (z1 + z2)), .val (.int ((z1 + z2) + z3)), .val (.int fr), .unset, .unset, .unset, .unset] [(.int (i4 &&& (2147483647 : Int32))), (.int fr)])
  refine Ends.by (fun _ => XS.bipush X4.here hx rfl (hb hby at_75)) ?_
  show Ends p e below _ T4 (mkF m 77 #[.val (.int i0), .val (.int i1), .val (.int i2), .val (.int i3), .val (.int i4), .val (.ref b1), .val (.int z1), .val (.int z2), .val (.int z3), .val (.int z1), .val (.int (z1 + z2)), .val (.int ((z1 + z2) + z3)), .val (.int fr), .unset, .unset, .unset, .unset] [(.int (13 : Int32)), (.int (i4 &&& (2147483647 : Int32))), (.int fr)])
  refine Ends.by (fun _ => XS.iload X4.here hx rfl (hb hby at_77) rfl) ?_
  show Ends p e below _ T4 (mkF m 79 #[.val (.int i0), .val (.int i1), .val (.int i2), .val (.int i3), .val (.int i4), .val (.ref b1), .val (.int z1), .val (.int z2), .val (.int z3), .val (.int z1), .val (.int (z1 + z2)), .val (.int ((z1 + z2) + z3)), .val (.int fr), .unset, .unset, .unset, .unset] [(.int fr), (.int (13 : Int32)), (.int (i4 &&& (2147483647 : Int32))), (.int fr)])
  refine Ends.by (fun _ => XS.isub X4.here hx rfl (hb hby at_79) rfl) ?_
  show Ends p e below _ T4 (mkF m 80 #[.val (.int i0), .val (.int i1), .val (.int i2), .val (.int i3), .val (.int i4), .val (.ref b1), .val (.int z1), .val (.int z2), .val (.int z3), .val (.int z1), .val (.int (z1 + z2)), .val (.int ((z1 + z2) + z3)), .val (.int fr), .unset, .unset, .unset, .unset] [(.int ((13 : Int32) - fr)), (.int (i4 &&& (2147483647 : Int32))), (.int fr)])
  refine Ends.by (fun _ => iremM (g := (mkF m 80 #[.val (.int i0), .val (.int i1), .val (.int i2), .val (.int i3), .val (.int i4), .val (.ref b1), .val (.int z1), .val (.int z2), .val (.int z3), .val (.int z1), .val (.int (z1 + z2)), .val (.int ((z1 + z2) + z3)), .val (.int fr), .unset, .unset, .unset, .unset] [(.int ((13 : Int32) - fr)), (.int (i4 &&& (2147483647 : Int32))), (.int fr)])) X4 hx rfl (hb hby at_80) rfl (own_13nz hf hF)) ?_
  show Ends p e below _ T4 (mkF m 81 #[.val (.int i0), .val (.int i1), .val (.int i2), .val (.int i3), .val (.int i4), .val (.ref b1), .val (.int z1), .val (.int z2), .val (.int z3), .val (.int z1), .val (.int (z1 + z2)), .val (.int ((z1 + z2) + z3)), .val (.int fr), .unset, .unset, .unset, .unset] [(.int ((i4 &&& (2147483647 : Int32)) % ((13 : Int32) - fr))), (.int fr)])
  refine Ends.by (fun _ => XS.iadd X4.here hx rfl (hb hby at_81) rfl) ?_
  show Ends p e below _ T4 (mkF m 82 #[.val (.int i0), .val (.int i1), .val (.int i2), .val (.int i3), .val (.int i4), .val (.ref b1), .val (.int z1), .val (.int z2), .val (.int z3), .val (.int z1), .val (.int (z1 + z2)), .val (.int ((z1 + z2) + z3)), .val (.int fr), .unset, .unset, .unset, .unset] [(.int (fr + ((i4 &&& (2147483647 : Int32)) % ((13 : Int32) - fr))))])
  refine Ends.by (fun _ => XS.istore X4.here hx rfl (hb hby at_82) rfl (l' := #[.val (.int i0), .val (.int i1), .val (.int i2), .val (.int i3), .val (.int i4), .val (.ref b1), .val (.int z1), .val (.int z2), .val (.int z3), .val (.int z1), .val (.int (z1 + z2)), .val (.int ((z1 + z2) + z3)), .val (.int fr), .val (.int (fr + ((i4 &&& (2147483647 : Int32)) % ((13 : Int32) - fr)))), .unset, .unset, .unset]) rfl) ?_
  show Ends p e below _ T4 (mkF m 84 #[.val (.int i0), .val (.int i1), .val (.int i2), .val (.int i3), .val (.int i4), .val (.ref b1), .val (.int z1), .val (.int z2), .val (.int z3), .val (.int z1), .val (.int (z1 + z2)), .val (.int ((z1 + z2) + z3)), .val (.int fr), .val (.int (fr + ((i4 &&& (2147483647 : Int32)) % ((13 : Int32) - fr)))), .unset, .unset, .unset] [])
  have hto := own_to hf hF i4
  generalize (fr + ((i4 &&& (2147483647 : Int32)) % ((13 : Int32) - fr))) = to1 at hto ⊢
  obtain ⟨T, ht, hFT, hT⟩ := hto
  show Ends p e below _ T4 (mkF m 84 #[.val (.int i0), .val (.int i1), .val (.int i2), .val (.int i3), .val (.int i4), .val (.ref b1), .val (.int z1), .val (.int z2), .val (.int z3), .val (.int z1), .val (.int (z1 + z2)), .val (.int ((z1 + z2) + z3)), .val (.int fr), .val (.int to1), .unset, .unset, .unset] [])
  have J1 : Ends p e below (Fini s (fun v h L => v = some (.int 1) ∧ Fr n0 L) room_1.cells room_1.slots) T4 (mkF m 115 #[.val (.int i0), .val (.int i1), .val (.int i2), .val (.int i3), .val (.int i4), .val (.ref b1), .val (.int z1), .val (.int z2), .val (.int z3), .val (.int z1), .val (.int (z1 + z2)), .val (.int ((z1 + z2) + z3)), .val (.int fr), .val (.int to1), .unset, .unset, .unset] [(.int (own_isB fr z1 (z1 + z2) ((z1 + z2) + z3)))]) := by
    refine Ends.by (fun _ => XS.istore X4.here hx rfl (hb hby at_115) rfl (l' := #[.val (.int i0), .val (.int i1), .val (.int i2), .val (.int i3), .val (.int i4), .val (.ref b1), .val (.int z1), .val (.int z2), .val (.int z3), .val (.int z1), .val (.int (z1 + z2)), .val (.int ((z1 + z2) + z3)), .val (.int fr), .val (.int to1), .val (.int (own_isB fr z1 (z1 + z2) ((z1 + z2) + z3))), .unset, .unset]) rfl) ?_
    show Ends p e below _ T4 (mkF m 117 #[.val (.int i0), .val (.int i1), .val (.int i2), .val (.int i3), .val (.int i4), .val (.ref b1), .val (.int z1), .val (.int z2), .val (.int z3), .val (.int z1), .val (.int (z1 + z2)), .val (.int ((z1 + z2) + z3)), .val (.int fr), .val (.int to1), .val (.int (own_isB fr z1 (z1 + z2) ((z1 + z2) + z3))), .unset, .unset] [])
    have J2 : Ends p e below (Fini s (fun v h L => v = some (.int 1) ∧ Fr n0 L) room_1.cells room_1.slots) T4 (mkF m 148 #[.val (.int i0), .val (.int i1), .val (.int i2), .val (.int i3), .val (.int i4), .val (.ref b1), .val (.int z1), .val (.int z2), .val (.int z3), .val (.int z1), .val (.int (z1 + z2)), .val (.int ((z1 + z2) + z3)), .val (.int fr), .val (.int to1), .val (.int (own_isB fr z1 (z1 + z2) ((z1 + z2) + z3))), .unset, .unset] [(.int (own_isB to1 z1 (z1 + z2) ((z1 + z2) + z3)))]) := by
      refine Ends.by (fun _ => XS.istore X4.here hx rfl (hb hby at_148) rfl (l' := #[.val (.int i0), .val (.int i1), .val (.int i2), .val (.int i3), .val (.int i4), .val (.ref b1), .val (.int z1), .val (.int z2), .val (.int z3), .val (.int z1), .val (.int (z1 + z2)), .val (.int ((z1 + z2) + z3)), .val (.int fr), .val (.int to1), .val (.int (own_isB fr z1 (z1 + z2) ((z1 + z2) + z3))), .val (.int (own_isB to1 z1 (z1 + z2) ((z1 + z2) + z3))), .unset]) rfl) ?_
      show Ends p e below _ T4 (mkF m 150 #[.val (.int i0), .val (.int i1), .val (.int i2), .val (.int i3), .val (.int i4), .val (.ref b1), .val (.int z1), .val (.int z2), .val (.int z3), .val (.int z1), .val (.int (z1 + z2)), .val (.int ((z1 + z2) + z3)), .val (.int fr), .val (.int to1), .val (.int (own_isB fr z1 (z1 + z2) ((z1 + z2) + z3))), .val (.int (own_isB to1 z1 (z1 + z2) ((z1 + z2) + z3))), .unset] [])
      have J3 : Ends p e below (Fini s (fun v h L => v = some (.int 1) ∧ Fr n0 L) room_1.cells room_1.slots) T4 (mkF m 172 #[.val (.int i0), .val (.int i1), .val (.int i2), .val (.int i3), .val (.int i4), .val (.ref b1), .val (.int z1), .val (.int z2), .val (.int z3), .val (.int z1), .val (.int (z1 + z2)), .val (.int ((z1 + z2) + z3)), .val (.int fr), .val (.int to1), .val (.int (own_isB fr z1 (z1 + z2) ((z1 + z2) + z3))), .val (.int (own_isB to1 z1 (z1 + z2) ((z1 + z2) + z3))), .unset] [(.int (own_exp fr to1 (own_isB fr z1 (z1 + z2) ((z1 + z2) + z3)) (own_isB to1 z1 (z1 + z2) ((z1 + z2) + z3))))]) := by
        refine Ends.by (fun _ => XS.istore X4.here hx rfl (hb hby at_172) rfl (l' := #[.val (.int i0), .val (.int i1), .val (.int i2), .val (.int i3), .val (.int i4), .val (.ref b1), .val (.int z1), .val (.int z2), .val (.int z3), .val (.int z1), .val (.int (z1 + z2)), .val (.int ((z1 + z2) + z3)), .val (.int fr), .val (.int to1), .val (.int (own_isB fr z1 (z1 + z2) ((z1 + z2) + z3))), .val (.int (own_isB to1 z1 (z1 + z2) ((z1 + z2) + z3))), .val (.int (own_exp fr to1 (own_isB fr z1 (z1 + z2) ((z1 + z2) + z3)) (own_isB to1 z1 (z1 + z2) ((z1 + z2) + z3))))]) rfl) ?_
        show Ends p e below _ T4 (mkF m 174 #[.val (.int i0), .val (.int i1), .val (.int i2), .val (.int i3), .val (.int i4), .val (.ref b1), .val (.int z1), .val (.int z2), .val (.int z3), .val (.int z1), .val (.int (z1 + z2)), .val (.int ((z1 + z2) + z3)), .val (.int fr), .val (.int to1), .val (.int (own_isB fr z1 (z1 + z2) ((z1 + z2) + z3))), .val (.int (own_isB to1 z1 (z1 + z2) ((z1 + z2) + z3))), .val (.int (own_exp fr to1 (own_isB fr z1 (z1 + z2) ((z1 + z2) + z3)) (own_isB to1 z1 (z1 + z2) ((z1 + z2) + z3))))] [])
        refine Ends.by (fun _ => XS.aload X4.here hx rfl (hb hby at_174) rfl rfl) ?_
        show Ends p e below _ T4 (mkF m 176 #[.val (.int i0), .val (.int i1), .val (.int i2), .val (.int i3), .val (.int i4), .val (.ref b1), .val (.int z1), .val (.int z2), .val (.int z3), .val (.int z1), .val (.int (z1 + z2)), .val (.int ((z1 + z2) + z3)), .val (.int fr), .val (.int to1), .val (.int (own_isB fr z1 (z1 + z2) ((z1 + z2) + z3))), .val (.int (own_isB to1 z1 (z1 + z2) ((z1 + z2) + z3))), .val (.int (own_exp fr to1 (own_isB fr z1 (z1 + z2) ((z1 + z2) + z3)) (own_isB to1 z1 (z1 + z2) ((z1 + z2) + z3))))] [(.ref b1)])
        refine Ends.by (fun _ => XS.iload X4.here hx rfl (hb hby at_176) rfl) ?_
        show Ends p e below _ T4 (mkF m 178 #[.val (.int i0), .val (.int i1), .val (.int i2), .val (.int i3), .val (.int i4), .val (.ref b1), .val (.int z1), .val (.int z2), .val (.int z3), .val (.int z1), .val (.int (z1 + z2)), .val (.int ((z1 + z2) + z3)), .val (.int fr), .val (.int to1), .val (.int (own_isB fr z1 (z1 + z2) ((z1 + z2) + z3))), .val (.int (own_isB to1 z1 (z1 + z2) ((z1 + z2) + z3))), .val (.int (own_exp fr to1 (own_isB fr z1 (z1 + z2) ((z1 + z2) + z3)) (own_isB to1 z1 (z1 + z2) ((z1 + z2) + z3))))] [(.int fr), (.ref b1)])
        refine Ends.by (fun _ => XS.iload X4.here hx rfl (hb hby at_178) rfl) ?_
        show Ends p e below _ T4 (mkF m 180 #[.val (.int i0), .val (.int i1), .val (.int i2), .val (.int i3), .val (.int i4), .val (.ref b1), .val (.int z1), .val (.int z2), .val (.int z3), .val (.int z1), .val (.int (z1 + z2)), .val (.int ((z1 + z2) + z3)), .val (.int fr), .val (.int to1), .val (.int (own_isB fr z1 (z1 + z2) ((z1 + z2) + z3))), .val (.int (own_isB to1 z1 (z1 + z2) ((z1 + z2) + z3))), .val (.int (own_exp fr to1 (own_isB fr z1 (z1 + z2) ((z1 + z2) + z3)) (own_isB to1 z1 (z1 + z2) ((z1 + z2) + z3))))] [(.int to1), (.int fr), (.ref b1)])
        refine Ends.callS (argsL := [(.ref b1), (.int fr), (.int to1)]) (rest := []) X4 hx hZ hown (hw _ (List.mem_of_getElem? (i := 11) rfl)) (hw _ (List.mem_of_getElem? (i := 12) rfl)) (hw _ (List.mem_of_getElem? (i := 13) rfl)) (hw _ (List.mem_of_getElem? (i := 14) rfl)) (by decide) (con_2 l Z a0 hw b1 fr to1 F T g3 T4.heap n0 Z4 A4q hf ht hFT hT) rfl (by rw [hml]; rfl) (hb hby at_180) (lenOf pd_2 rfl) 0 (Nat.le_of_eq rfl) (by decide) (by decide) (by decide) (by decide) ?_
        intro v T5 L5 X5 hQ
        obtain ⟨rfl, e5, rfl⟩ := hQ
        rw [List.append_nil] at X5
        show Ends p e below _ T5 (mkF m 183 #[.val (.int i0), .val (.int i1), .val (.int i2), .val (.int i3), .val (.int i4), .val (.ref b1), .val (.int z1), .val (.int z2), .val (.int z3), .val (.int z1), .val (.int (z1 + z2)), .val (.int ((z1 + z2) + z3)), .val (.int fr), .val (.int to1), .val (.int (own_isB fr z1 (z1 + z2) ((z1 + z2) + z3))), .val (.int (own_isB to1 z1 (z1 + z2) ((z1 + z2) + z3))), .val (.int (own_exp fr to1 (own_isB fr z1 (z1 + z2) ((z1 + z2) + z3)) (own_isB to1 z1 (z1 + z2) ((z1 + z2) + z3))))] [(.int (own_wf g3 fr to1 F T))])
        refine Ends.by (fun _ => XS.iload X5.here hx rfl (hb hby at_183) rfl) ?_
        show Ends p e below _ T5 (mkF m 185 #[.val (.int i0), .val (.int i1), .val (.int i2), .val (.int i3), .val (.int i4), .val (.ref b1), .val (.int z1), .val (.int z2), .val (.int z3), .val (.int z1), .val (.int (z1 + z2)), .val (.int ((z1 + z2) + z3)), .val (.int fr), .val (.int to1), .val (.int (own_isB fr z1 (z1 + z2) ((z1 + z2) + z3))), .val (.int (own_isB to1 z1 (z1 + z2) ((z1 + z2) + z3))), .val (.int (own_exp fr to1 (own_isB fr z1 (z1 + z2) ((z1 + z2) + z3)) (own_isB to1 z1 (z1 + z2) ((z1 + z2) + z3))))] [(.int (own_exp fr to1 (own_isB fr z1 (z1 + z2) ((z1 + z2) + z3)) (own_isB to1 z1 (z1 + z2) ((z1 + z2) + z3)))), (.int (own_wf g3 fr to1 F T))])
        refine Ends.icmp X5 hx (hb hby at_185) 192 (by decide) (by decide) (fun q => ?_) (fun q => ?_)
        · have c185 : ¬ ((own_wf g3 fr to1 F T) = (own_exp fr to1 (own_isB fr z1 (z1 + z2) ((z1 + z2) + z3)) (own_isB to1 z1 (z1 + z2) ((z1 + z2) + z3)))) := own_ne.1 q
          exact absurd (own_final P1 P2 P3 l1 l2 l3 u1 u2 u3 hf ht hFT hT hz1 (own_sum hz1 hz2 (by omega)) (own_sum (own_sum hz1 hz2 (by omega)) hz3 (by omega))) c185
        · have c185 : (own_wf g3 fr to1 F T) = (own_exp fr to1 (own_isB fr z1 (z1 + z2) ((z1 + z2) + z3)) (own_isB to1 z1 (z1 + z2) ((z1 + z2) + z3))) := own_ne.2 q
          show Ends p e below _ T5 (mkF m 188 #[.val (.int i0), .val (.int i1), .val (.int i2), .val (.int i3), .val (.int i4), .val (.ref b1), .val (.int z1), .val (.int z2), .val (.int z3), .val (.int z1), .val (.int (z1 + z2)), .val (.int ((z1 + z2) + z3)), .val (.int fr), .val (.int to1), .val (.int (own_isB fr z1 (z1 + z2) ((z1 + z2) + z3))), .val (.int (own_isB to1 z1 (z1 + z2) ((z1 + z2) + z3))), .val (.int (own_exp fr to1 (own_isB fr z1 (z1 + z2) ((z1 + z2) + z3)) (own_isB to1 z1 (z1 + z2) ((z1 + z2) + z3))))] [])
          refine Ends.by (fun _ => XS.iconst X5.here hx rfl (hb hby at_188)) ?_
          show Ends p e below _ T5 (mkF m 189 #[.val (.int i0), .val (.int i1), .val (.int i2), .val (.int i3), .val (.int i4), .val (.ref b1), .val (.int z1), .val (.int z2), .val (.int z3), .val (.int z1), .val (.int (z1 + z2)), .val (.int ((z1 + z2) + z3)), .val (.int fr), .val (.int to1), .val (.int (own_isB fr z1 (z1 + z2) ((z1 + z2) + z3))), .val (.int (own_isB to1 z1 (z1 + z2) ((z1 + z2) + z3))), .val (.int (own_exp fr to1 (own_isB fr z1 (z1 + z2) ((z1 + z2) + z3)) (own_isB to1 z1 (z1 + z2) ((z1 + z2) + z3))))] [(.int (1 : Int32))])
          refine Ends.by (fun _ => XS.goto X5.here hx rfl (pc0 := 189) (pc' := 193) rfl (hb hby at_189) (by decide) (by decide)) ?_
          show Ends p e below _ T5 (mkF m 193 #[.val (.int i0), .val (.int i1), .val (.int i2), .val (.int i3), .val (.int i4), .val (.ref b1), .val (.int z1), .val (.int z2), .val (.int z3), .val (.int z1), .val (.int (z1 + z2)), .val (.int ((z1 + z2) + z3)), .val (.int fr), .val (.int to1), .val (.int (own_isB fr z1 (z1 + z2) ((z1 + z2) + z3))), .val (.int (own_isB to1 z1 (z1 + z2) ((z1 + z2) + z3))), .val (.int (own_exp fr to1 (own_isB fr z1 (z1 + z2) ((z1 + z2) + z3)) (own_isB to1 z1 (z1 + z2) ((z1 + z2) + z3))))] [(.int (1 : Int32))])
          exact Ends.retZ X5 hx hlk hret (hb hby at_193) (by first | decide | (simp; done)) (by decide) (by decide) (⟨rfl, N4⟩)
      refine Ends.by (fun _ => XS.iload X4.here hx rfl (hb hby at_150) rfl) ?_
      show Ends p e below _ T4 (mkF m 152 #[.val (.int i0), .val (.int i1), .val (.int i2), .val (.int i3), .val (.int i4), .val (.ref b1), .val (.int z1), .val (.int z2), .val (.int z3), .val (.int z1), .val (.int (z1 + z2)), .val (.int ((z1 + z2) + z3)), .val (.int fr), .val (.int to1), .val (.int (own_isB fr z1 (z1 + z2) ((z1 + z2) + z3))), .val (.int (own_isB to1 z1 (z1 + z2) ((z1 + z2) + z3))), .unset] [(.int fr)])
      refine Ends.by (fun _ => XS.iload X4.here hx rfl (hb hby at_152) rfl) ?_
      show Ends p e below _ T4 (mkF m 154 #[.val (.int i0), .val (.int i1), .val (.int i2), .val (.int i3), .val (.int i4), .val (.ref b1), .val (.int z1), .val (.int z2), .val (.int z3), .val (.int z1), .val (.int (z1 + z2)), .val (.int ((z1 + z2) + z3)), .val (.int fr), .val (.int to1), .val (.int (own_isB fr z1 (z1 + z2) ((z1 + z2) + z3))), .val (.int (own_isB to1 z1 (z1 + z2) ((z1 + z2) + z3))), .unset] [(.int to1), (.int fr)])
      refine Ends.icmp X4 hx (hb hby at_154) 167 (by decide) (by decide) (fun q => ?_) (fun q => ?_)
      · have c154 : fr = to1 := own_eq.1 q
        show Ends p e below _ T4 (mkF m 167 #[.val (.int i0), .val (.int i1), .val (.int i2), .val (.int i3), .val (.int i4), .val (.ref b1), .val (.int z1), .val (.int z2), .val (.int z3), .val (.int z1), .val (.int (z1 + z2)), .val (.int ((z1 + z2) + z3)), .val (.int fr), .val (.int to1), .val (.int (own_isB fr z1 (z1 + z2) ((z1 + z2) + z3))), .val (.int (own_isB to1 z1 (z1 + z2) ((z1 + z2) + z3))), .unset] [])
        refine Ends.by (fun _ => XS.iconst X4.here hx rfl (hb hby at_167)) ?_
        show Ends p e below _ T4 (mkF m 168 #[.val (.int i0), .val (.int i1), .val (.int i2), .val (.int i3), .val (.int i4), .val (.ref b1), .val (.int z1), .val (.int z2), .val (.int z3), .val (.int z1), .val (.int (z1 + z2)), .val (.int ((z1 + z2) + z3)), .val (.int fr), .val (.int to1), .val (.int (own_isB fr z1 (z1 + z2) ((z1 + z2) + z3))), .val (.int (own_isB to1 z1 (z1 + z2) ((z1 + z2) + z3))), .unset] [(.int (1 : Int32))])
        refine Ends.by (fun _ => XS.goto X4.here hx rfl (pc0 := 168) (pc' := 172) rfl (hb hby at_168) (by decide) (by decide)) ?_
        show Ends p e below _ T4 (mkF m 172 #[.val (.int i0), .val (.int i1), .val (.int i2), .val (.int i3), .val (.int i4), .val (.ref b1), .val (.int z1), .val (.int z2), .val (.int z3), .val (.int z1), .val (.int (z1 + z2)), .val (.int ((z1 + z2) + z3)), .val (.int fr), .val (.int to1), .val (.int (own_isB fr z1 (z1 + z2) ((z1 + z2) + z3))), .val (.int (own_isB to1 z1 (z1 + z2) ((z1 + z2) + z3))), .unset] [(.int (1 : Int32))])
        have ev : (own_exp fr to1 (own_isB fr z1 (z1 + z2) ((z1 + z2) + z3)) (own_isB to1 z1 (z1 + z2) ((z1 + z2) + z3))) = (1 : Int32) := by rw [own_exp, if_pos c154]
        rw [ev] at J3
        exact J3
      · have c154 : ¬ (fr = to1) := own_eq.2 q
        show Ends p e below _ T4 (mkF m 157 #[.val (.int i0), .val (.int i1), .val (.int i2), .val (.int i3), .val (.int i4), .val (.ref b1), .val (.int z1), .val (.int z2), .val (.int z3), .val (.int z1), .val (.int (z1 + z2)), .val (.int ((z1 + z2) + z3)), .val (.int fr), .val (.int to1), .val (.int (own_isB fr z1 (z1 + z2) ((z1 + z2) + z3))), .val (.int (own_isB to1 z1 (z1 + z2) ((z1 + z2) + z3))), .unset] [])
        refine Ends.by (fun _ => XS.iload X4.here hx rfl (hb hby at_157) rfl) ?_
        show Ends p e below _ T4 (mkF m 159 #[.val (.int i0), .val (.int i1), .val (.int i2), .val (.int i3), .val (.int i4), .val (.ref b1), .val (.int z1), .val (.int z2), .val (.int z3), .val (.int z1), .val (.int (z1 + z2)), .val (.int ((z1 + z2) + z3)), .val (.int fr), .val (.int to1), .val (.int (own_isB fr z1 (z1 + z2) ((z1 + z2) + z3))), .val (.int (own_isB to1 z1 (z1 + z2) ((z1 + z2) + z3))), .unset] [(.int (own_isB fr z1 (z1 + z2) ((z1 + z2) + z3)))])
        refine Ends.ifc X4 hx (hb hby at_159) 171 (by decide) (by decide) (fun q => ?_) (fun q => ?_)
        · have c159 : (own_isB fr z1 (z1 + z2) ((z1 + z2) + z3)) = (0 : Int32) := own_eq.1 q
          show Ends p e below _ T4 (mkF m 171 #[.val (.int i0), .val (.int i1), .val (.int i2), .val (.int i3), .val (.int i4), .val (.ref b1), .val (.int z1), .val (.int z2), .val (.int z3), .val (.int z1), .val (.int (z1 + z2)), .val (.int ((z1 + z2) + z3)), .val (.int fr), .val (.int to1), .val (.int (own_isB fr z1 (z1 + z2) ((z1 + z2) + z3))), .val (.int (own_isB to1 z1 (z1 + z2) ((z1 + z2) + z3))), .unset] [])
          refine Ends.by (fun _ => XS.iconst X4.here hx rfl (hb hby at_171)) ?_
          show Ends p e below _ T4 (mkF m 172 #[.val (.int i0), .val (.int i1), .val (.int i2), .val (.int i3), .val (.int i4), .val (.ref b1), .val (.int z1), .val (.int z2), .val (.int z3), .val (.int z1), .val (.int (z1 + z2)), .val (.int ((z1 + z2) + z3)), .val (.int fr), .val (.int to1), .val (.int (own_isB fr z1 (z1 + z2) ((z1 + z2) + z3))), .val (.int (own_isB to1 z1 (z1 + z2) ((z1 + z2) + z3))), .unset] [(.int (0 : Int32))])
          have ev : (own_exp fr to1 (own_isB fr z1 (z1 + z2) ((z1 + z2) + z3)) (own_isB to1 z1 (z1 + z2) ((z1 + z2) + z3))) = (0 : Int32) := by rw [own_exp, if_neg c154, if_pos c159]
          rw [ev] at J3
          exact J3
        · have c159 : ¬ ((own_isB fr z1 (z1 + z2) ((z1 + z2) + z3)) = (0 : Int32)) := own_eq.2 q
          show Ends p e below _ T4 (mkF m 162 #[.val (.int i0), .val (.int i1), .val (.int i2), .val (.int i3), .val (.int i4), .val (.ref b1), .val (.int z1), .val (.int z2), .val (.int z3), .val (.int z1), .val (.int (z1 + z2)), .val (.int ((z1 + z2) + z3)), .val (.int fr), .val (.int to1), .val (.int (own_isB fr z1 (z1 + z2) ((z1 + z2) + z3))), .val (.int (own_isB to1 z1 (z1 + z2) ((z1 + z2) + z3))), .unset] [])
          refine Ends.by (fun _ => XS.iload X4.here hx rfl (hb hby at_162) rfl) ?_
          show Ends p e below _ T4 (mkF m 164 #[.val (.int i0), .val (.int i1), .val (.int i2), .val (.int i3), .val (.int i4), .val (.ref b1), .val (.int z1), .val (.int z2), .val (.int z3), .val (.int z1), .val (.int (z1 + z2)), .val (.int ((z1 + z2) + z3)), .val (.int fr), .val (.int to1), .val (.int (own_isB fr z1 (z1 + z2) ((z1 + z2) + z3))), .val (.int (own_isB to1 z1 (z1 + z2) ((z1 + z2) + z3))), .unset] [(.int (own_isB to1 z1 (z1 + z2) ((z1 + z2) + z3)))])
          refine Ends.ifc X4 hx (hb hby at_164) 171 (by decide) (by decide) (fun q => ?_) (fun q => ?_)
          · have c164 : (own_isB to1 z1 (z1 + z2) ((z1 + z2) + z3)) = (0 : Int32) := own_eq.1 q
            show Ends p e below _ T4 (mkF m 171 #[.val (.int i0), .val (.int i1), .val (.int i2), .val (.int i3), .val (.int i4), .val (.ref b1), .val (.int z1), .val (.int z2), .val (.int z3), .val (.int z1), .val (.int (z1 + z2)), .val (.int ((z1 + z2) + z3)), .val (.int fr), .val (.int to1), .val (.int (own_isB fr z1 (z1 + z2) ((z1 + z2) + z3))), .val (.int (own_isB to1 z1 (z1 + z2) ((z1 + z2) + z3))), .unset] [])
            refine Ends.by (fun _ => XS.iconst X4.here hx rfl (hb hby at_171)) ?_
            show Ends p e below _ T4 (mkF m 172 #[.val (.int i0), .val (.int i1), .val (.int i2), .val (.int i3), .val (.int i4), .val (.ref b1), .val (.int z1), .val (.int z2), .val (.int z3), .val (.int z1), .val (.int (z1 + z2)), .val (.int ((z1 + z2) + z3)), .val (.int fr), .val (.int to1), .val (.int (own_isB fr z1 (z1 + z2) ((z1 + z2) + z3))), .val (.int (own_isB to1 z1 (z1 + z2) ((z1 + z2) + z3))), .unset] [(.int (0 : Int32))])
            have ev : (own_exp fr to1 (own_isB fr z1 (z1 + z2) ((z1 + z2) + z3)) (own_isB to1 z1 (z1 + z2) ((z1 + z2) + z3))) = (0 : Int32) := by rw [own_exp, if_neg c154, if_neg c159, if_pos c164]
            rw [ev] at J3
            exact J3
          · have c164 : ¬ ((own_isB to1 z1 (z1 + z2) ((z1 + z2) + z3)) = (0 : Int32)) := own_eq.2 q
            show Ends p e below _ T4 (mkF m 167 #[.val (.int i0), .val (.int i1), .val (.int i2), .val (.int i3), .val (.int i4), .val (.ref b1), .val (.int z1), .val (.int z2), .val (.int z3), .val (.int z1), .val (.int (z1 + z2)), .val (.int ((z1 + z2) + z3)), .val (.int fr), .val (.int to1), .val (.int (own_isB fr z1 (z1 + z2) ((z1 + z2) + z3))), .val (.int (own_isB to1 z1 (z1 + z2) ((z1 + z2) + z3))), .unset] [])
            refine Ends.by (fun _ => XS.iconst X4.here hx rfl (hb hby at_167)) ?_
            show Ends p e below _ T4 (mkF m 168 #[.val (.int i0), .val (.int i1), .val (.int i2), .val (.int i3), .val (.int i4), .val (.ref b1), .val (.int z1), .val (.int z2), .val (.int z3), .val (.int z1), .val (.int (z1 + z2)), .val (.int ((z1 + z2) + z3)), .val (.int fr), .val (.int to1), .val (.int (own_isB fr z1 (z1 + z2) ((z1 + z2) + z3))), .val (.int (own_isB to1 z1 (z1 + z2) ((z1 + z2) + z3))), .unset] [(.int (1 : Int32))])
            refine Ends.by (fun _ => XS.goto X4.here hx rfl (pc0 := 168) (pc' := 172) rfl (hb hby at_168) (by decide) (by decide)) ?_
            show Ends p e below _ T4 (mkF m 172 #[.val (.int i0), .val (.int i1), .val (.int i2), .val (.int i3), .val (.int i4), .val (.ref b1), .val (.int z1), .val (.int z2), .val (.int z3), .val (.int z1), .val (.int (z1 + z2)), .val (.int ((z1 + z2) + z3)), .val (.int fr), .val (.int to1), .val (.int (own_isB fr z1 (z1 + z2) ((z1 + z2) + z3))), .val (.int (own_isB to1 z1 (z1 + z2) ((z1 + z2) + z3))), .unset] [(.int (1 : Int32))])
            have ev : (own_exp fr to1 (own_isB fr z1 (z1 + z2) ((z1 + z2) + z3)) (own_isB to1 z1 (z1 + z2) ((z1 + z2) + z3))) = (1 : Int32) := by rw [own_exp, if_neg c154, if_neg c159, if_neg c164]
            rw [ev] at J3
            exact J3
    refine Ends.by (fun _ => XS.iload X4.here hx rfl (hb hby at_117) rfl) ?_
    show Ends p e below _ T4 (mkF m 119 #[.val (.int i0), .val (.int i1), .val (.int i2), .val (.int i3), .val (.int i4), .val (.ref b1), .val (.int z1), .val (.int z2), .val (.int z3), .val (.int z1), .val (.int (z1 + z2)), .val (.int ((z1 + z2) + z3)), .val (.int fr), .val (.int to1), .val (.int (own_isB fr z1 (z1 + z2) ((z1 + z2) + z3))), .unset, .unset] [(.int to1)])
    refine Ends.ifc X4 hx (hb hby at_119) 143 (by decide) (by decide) (fun q => ?_) (fun q => ?_)
    · have c119 : to1 = (0 : Int32) := own_eq.1 q
      show Ends p e below _ T4 (mkF m 143 #[.val (.int i0), .val (.int i1), .val (.int i2), .val (.int i3), .val (.int i4), .val (.ref b1), .val (.int z1), .val (.int z2), .val (.int z3), .val (.int z1), .val (.int (z1 + z2)), .val (.int ((z1 + z2) + z3)), .val (.int fr), .val (.int to1), .val (.int (own_isB fr z1 (z1 + z2) ((z1 + z2) + z3))), .unset, .unset] [])
      refine Ends.by (fun _ => XS.iconst X4.here hx rfl (hb hby at_143)) ?_
      show Ends p e below _ T4 (mkF m 144 #[.val (.int i0), .val (.int i1), .val (.int i2), .val (.int i3), .val (.int i4), .val (.ref b1), .val (.int z1), .val (.int z2), .val (.int z3), .val (.int z1), .val (.int (z1 + z2)), .val (.int ((z1 + z2) + z3)), .val (.int fr), .val (.int to1), .val (.int (own_isB fr z1 (z1 + z2) ((z1 + z2) + z3))), .unset, .unset] [(.int (1 : Int32))])
      refine Ends.by (fun _ => XS.goto X4.here hx rfl (pc0 := 144) (pc' := 148) rfl (hb hby at_144) (by decide) (by decide)) ?_
      show Ends p e below _ T4 (mkF m 148 #[.val (.int i0), .val (.int i1), .val (.int i2), .val (.int i3), .val (.int i4), .val (.ref b1), .val (.int z1), .val (.int z2), .val (.int z3), .val (.int z1), .val (.int (z1 + z2)), .val (.int ((z1 + z2) + z3)), .val (.int fr), .val (.int to1), .val (.int (own_isB fr z1 (z1 + z2) ((z1 + z2) + z3))), .unset, .unset] [(.int (1 : Int32))])
      have ev : (own_isB to1 z1 (z1 + z2) ((z1 + z2) + z3)) = (1 : Int32) := by rw [own_isB, if_pos c119]
      rw [ev] at J2
      exact J2
    · have c119 : ¬ (to1 = (0 : Int32)) := own_eq.2 q
      show Ends p e below _ T4 (mkF m 122 #[.val (.int i0), .val (.int i1), .val (.int i2), .val (.int i3), .val (.int i4), .val (.ref b1), .val (.int z1), .val (.int z2), .val (.int z3), .val (.int z1), .val (.int (z1 + z2)), .val (.int ((z1 + z2) + z3)), .val (.int fr), .val (.int to1), .val (.int (own_isB fr z1 (z1 + z2) ((z1 + z2) + z3))), .unset, .unset] [])
      refine Ends.by (fun _ => XS.iload X4.here hx rfl (hb hby at_122) rfl) ?_
      show Ends p e below _ T4 (mkF m 124 #[.val (.int i0), .val (.int i1), .val (.int i2), .val (.int i3), .val (.int i4), .val (.ref b1), .val (.int z1), .val (.int z2), .val (.int z3), .val (.int z1), .val (.int (z1 + z2)), .val (.int ((z1 + z2) + z3)), .val (.int fr), .val (.int to1), .val (.int (own_isB fr z1 (z1 + z2) ((z1 + z2) + z3))), .unset, .unset] [(.int to1)])
      refine Ends.by (fun _ => XS.iload X4.here hx rfl (hb hby at_124) rfl) ?_
      show Ends p e below _ T4 (mkF m 126 #[.val (.int i0), .val (.int i1), .val (.int i2), .val (.int i3), .val (.int i4), .val (.ref b1), .val (.int z1), .val (.int z2), .val (.int z3), .val (.int z1), .val (.int (z1 + z2)), .val (.int ((z1 + z2) + z3)), .val (.int fr), .val (.int to1), .val (.int (own_isB fr z1 (z1 + z2) ((z1 + z2) + z3))), .unset, .unset] [(.int z1), (.int to1)])
      refine Ends.icmp X4 hx (hb hby at_126) 143 (by decide) (by decide) (fun q => ?_) (fun q => ?_)
      · have c126 : to1 = z1 := own_eq.1 q
        show Ends p e below _ T4 (mkF m 143 #[.val (.int i0), .val (.int i1), .val (.int i2), .val (.int i3), .val (.int i4), .val (.ref b1), .val (.int z1), .val (.int z2), .val (.int z3), .val (.int z1), .val (.int (z1 + z2)), .val (.int ((z1 + z2) + z3)), .val (.int fr), .val (.int to1), .val (.int (own_isB fr z1 (z1 + z2) ((z1 + z2) + z3))), .unset, .unset] [])
        refine Ends.by (fun _ => XS.iconst X4.here hx rfl (hb hby at_143)) ?_
        show Ends p e below _ T4 (mkF m 144 #[.val (.int i0), .val (.int i1), .val (.int i2), .val (.int i3), .val (.int i4), .val (.ref b1), .val (.int z1), .val (.int z2), .val (.int z3), .val (.int z1), .val (.int (z1 + z2)), .val (.int ((z1 + z2) + z3)), .val (.int fr), .val (.int to1), .val (.int (own_isB fr z1 (z1 + z2) ((z1 + z2) + z3))), .unset, .unset] [(.int (1 : Int32))])
        refine Ends.by (fun _ => XS.goto X4.here hx rfl (pc0 := 144) (pc' := 148) rfl (hb hby at_144) (by decide) (by decide)) ?_
        show Ends p e below _ T4 (mkF m 148 #[.val (.int i0), .val (.int i1), .val (.int i2), .val (.int i3), .val (.int i4), .val (.ref b1), .val (.int z1), .val (.int z2), .val (.int z3), .val (.int z1), .val (.int (z1 + z2)), .val (.int ((z1 + z2) + z3)), .val (.int fr), .val (.int to1), .val (.int (own_isB fr z1 (z1 + z2) ((z1 + z2) + z3))), .unset, .unset] [(.int (1 : Int32))])
        have ev : (own_isB to1 z1 (z1 + z2) ((z1 + z2) + z3)) = (1 : Int32) := by rw [own_isB, if_neg c119, if_pos c126]
        rw [ev] at J2
        exact J2
      · have c126 : ¬ (to1 = z1) := own_eq.2 q
        show Ends p e below _ T4 (mkF m 129 #[.val (.int i0), .val (.int i1), .val (.int i2), .val (.int i3), .val (.int i4), .val (.ref b1), .val (.int z1), .val (.int z2), .val (.int z3), .val (.int z1), .val (.int (z1 + z2)), .val (.int ((z1 + z2) + z3)), .val (.int fr), .val (.int to1), .val (.int (own_isB fr z1 (z1 + z2) ((z1 + z2) + z3))), .unset, .unset] [])
        refine Ends.by (fun _ => XS.iload X4.here hx rfl (hb hby at_129) rfl) ?_
        show Ends p e below _ T4 (mkF m 131 #[.val (.int i0), .val (.int i1), .val (.int i2), .val (.int i3), .val (.int i4), .val (.ref b1), .val (.int z1), .val (.int z2), .val (.int z3), .val (.int z1), .val (.int (z1 + z2)), .val (.int ((z1 + z2) + z3)), .val (.int fr), .val (.int to1), .val (.int (own_isB fr z1 (z1 + z2) ((z1 + z2) + z3))), .unset, .unset] [(.int to1)])
        refine Ends.by (fun _ => XS.iload X4.here hx rfl (hb hby at_131) rfl) ?_
        show Ends p e below _ T4 (mkF m 133 #[.val (.int i0), .val (.int i1), .val (.int i2), .val (.int i3), .val (.int i4), .val (.ref b1), .val (.int z1), .val (.int z2), .val (.int z3), .val (.int z1), .val (.int (z1 + z2)), .val (.int ((z1 + z2) + z3)), .val (.int fr), .val (.int to1), .val (.int (own_isB fr z1 (z1 + z2) ((z1 + z2) + z3))), .unset, .unset] [(.int (z1 + z2)), (.int to1)])
        refine Ends.icmp X4 hx (hb hby at_133) 143 (by decide) (by decide) (fun q => ?_) (fun q => ?_)
        · have c133 : to1 = (z1 + z2) := own_eq.1 q
          show Ends p e below _ T4 (mkF m 143 #[.val (.int i0), .val (.int i1), .val (.int i2), .val (.int i3), .val (.int i4), .val (.ref b1), .val (.int z1), .val (.int z2), .val (.int z3), .val (.int z1), .val (.int (z1 + z2)), .val (.int ((z1 + z2) + z3)), .val (.int fr), .val (.int to1), .val (.int (own_isB fr z1 (z1 + z2) ((z1 + z2) + z3))), .unset, .unset] [])
          refine Ends.by (fun _ => XS.iconst X4.here hx rfl (hb hby at_143)) ?_
          show Ends p e below _ T4 (mkF m 144 #[.val (.int i0), .val (.int i1), .val (.int i2), .val (.int i3), .val (.int i4), .val (.ref b1), .val (.int z1), .val (.int z2), .val (.int z3), .val (.int z1), .val (.int (z1 + z2)), .val (.int ((z1 + z2) + z3)), .val (.int fr), .val (.int to1), .val (.int (own_isB fr z1 (z1 + z2) ((z1 + z2) + z3))), .unset, .unset] [(.int (1 : Int32))])
          refine Ends.by (fun _ => XS.goto X4.here hx rfl (pc0 := 144) (pc' := 148) rfl (hb hby at_144) (by decide) (by decide)) ?_
          show Ends p e below _ T4 (mkF m 148 #[.val (.int i0), .val (.int i1), .val (.int i2), .val (.int i3), .val (.int i4), .val (.ref b1), .val (.int z1), .val (.int z2), .val (.int z3), .val (.int z1), .val (.int (z1 + z2)), .val (.int ((z1 + z2) + z3)), .val (.int fr), .val (.int to1), .val (.int (own_isB fr z1 (z1 + z2) ((z1 + z2) + z3))), .unset, .unset] [(.int (1 : Int32))])
          have ev : (own_isB to1 z1 (z1 + z2) ((z1 + z2) + z3)) = (1 : Int32) := by rw [own_isB, if_neg c119, if_neg c126, if_pos c133]
          rw [ev] at J2
          exact J2
        · have c133 : ¬ (to1 = (z1 + z2)) := own_eq.2 q
          show Ends p e below _ T4 (mkF m 136 #[.val (.int i0), .val (.int i1), .val (.int i2), .val (.int i3), .val (.int i4), .val (.ref b1), .val (.int z1), .val (.int z2), .val (.int z3), .val (.int z1), .val (.int (z1 + z2)), .val (.int ((z1 + z2) + z3)), .val (.int fr), .val (.int to1), .val (.int (own_isB fr z1 (z1 + z2) ((z1 + z2) + z3))), .unset, .unset] [])
          refine Ends.by (fun _ => XS.iload X4.here hx rfl (hb hby at_136) rfl) ?_
          show Ends p e below _ T4 (mkF m 138 #[.val (.int i0), .val (.int i1), .val (.int i2), .val (.int i3), .val (.int i4), .val (.ref b1), .val (.int z1), .val (.int z2), .val (.int z3), .val (.int z1), .val (.int (z1 + z2)), .val (.int ((z1 + z2) + z3)), .val (.int fr), .val (.int to1), .val (.int (own_isB fr z1 (z1 + z2) ((z1 + z2) + z3))), .unset, .unset] [(.int to1)])
          refine Ends.by (fun _ => XS.iload X4.here hx rfl (hb hby at_138) rfl) ?_
          show Ends p e below _ T4 (mkF m 140 #[.val (.int i0), .val (.int i1), .val (.int i2), .val (.int i3), .val (.int i4), .val (.ref b1), .val (.int z1), .val (.int z2), .val (.int z3), .val (.int z1), .val (.int (z1 + z2)), .val (.int ((z1 + z2) + z3)), .val (.int fr), .val (.int to1), .val (.int (own_isB fr z1 (z1 + z2) ((z1 + z2) + z3))), .unset, .unset] [(.int ((z1 + z2) + z3)), (.int to1)])
          refine Ends.icmp X4 hx (hb hby at_140) 147 (by decide) (by decide) (fun q => ?_) (fun q => ?_)
          · have c140 : to1 < ((z1 + z2) + z3) := own_lt.1 q
            show Ends p e below _ T4 (mkF m 147 #[.val (.int i0), .val (.int i1), .val (.int i2), .val (.int i3), .val (.int i4), .val (.ref b1), .val (.int z1), .val (.int z2), .val (.int z3), .val (.int z1), .val (.int (z1 + z2)), .val (.int ((z1 + z2) + z3)), .val (.int fr), .val (.int to1), .val (.int (own_isB fr z1 (z1 + z2) ((z1 + z2) + z3))), .unset, .unset] [])
            refine Ends.by (fun _ => XS.iconst X4.here hx rfl (hb hby at_147)) ?_
            show Ends p e below _ T4 (mkF m 148 #[.val (.int i0), .val (.int i1), .val (.int i2), .val (.int i3), .val (.int i4), .val (.ref b1), .val (.int z1), .val (.int z2), .val (.int z3), .val (.int z1), .val (.int (z1 + z2)), .val (.int ((z1 + z2) + z3)), .val (.int fr), .val (.int to1), .val (.int (own_isB fr z1 (z1 + z2) ((z1 + z2) + z3))), .unset, .unset] [(.int (0 : Int32))])
            have ev : (own_isB to1 z1 (z1 + z2) ((z1 + z2) + z3)) = (0 : Int32) := by rw [own_isB, if_neg c119, if_neg c126, if_neg c133, if_pos c140]
            rw [ev] at J2
            exact J2
          · have c140 : ¬ (to1 < ((z1 + z2) + z3)) := own_lt.2 q
            show Ends p e below _ T4 (mkF m 143 #[.val (.int i0), .val (.int i1), .val (.int i2), .val (.int i3), .val (.int i4), .val (.ref b1), .val (.int z1), .val (.int z2), .val (.int z3), .val (.int z1), .val (.int (z1 + z2)), .val (.int ((z1 + z2) + z3)), .val (.int fr), .val (.int to1), .val (.int (own_isB fr z1 (z1 + z2) ((z1 + z2) + z3))), .unset, .unset] [])
            refine Ends.by (fun _ => XS.iconst X4.here hx rfl (hb hby at_143)) ?_
            show Ends p e below _ T4 (mkF m 144 #[.val (.int i0), .val (.int i1), .val (.int i2), .val (.int i3), .val (.int i4), .val (.ref b1), .val (.int z1), .val (.int z2), .val (.int z3), .val (.int z1), .val (.int (z1 + z2)), .val (.int ((z1 + z2) + z3)), .val (.int fr), .val (.int to1), .val (.int (own_isB fr z1 (z1 + z2) ((z1 + z2) + z3))), .unset, .unset] [(.int (1 : Int32))])
            refine Ends.by (fun _ => XS.goto X4.here hx rfl (pc0 := 144) (pc' := 148) rfl (hb hby at_144) (by decide) (by decide)) ?_
            show Ends p e below _ T4 (mkF m 148 #[.val (.int i0), .val (.int i1), .val (.int i2), .val (.int i3), .val (.int i4), .val (.ref b1), .val (.int z1), .val (.int z2), .val (.int z3), .val (.int z1), .val (.int (z1 + z2)), .val (.int ((z1 + z2) + z3)), .val (.int fr), .val (.int to1), .val (.int (own_isB fr z1 (z1 + z2) ((z1 + z2) + z3))), .unset, .unset] [(.int (1 : Int32))])
            have ev : (own_isB to1 z1 (z1 + z2) ((z1 + z2) + z3)) = (1 : Int32) := by rw [own_isB, if_neg c119, if_neg c126, if_neg c133, if_neg c140]
            rw [ev] at J2
            exact J2
  refine Ends.by (fun _ => XS.iload X4.here hx rfl (hb hby at_84) rfl) ?_
  show Ends p e below _ T4 (mkF m 86 #[.val (.int i0), .val (.int i1), .val (.int i2), .val (.int i3), .val (.int i4), .val (.ref b1), .val (.int z1), .val (.int z2), .val (.int z3), .val (.int z1), .val (.int (z1 + z2)), .val (.int ((z1 + z2) + z3)), .val (.int fr), .val (.int to1), .unset, .unset, .unset] [(.int fr)])
  refine Ends.ifc X4 hx (hb hby at_86) 110 (by decide) (by decide) (fun q => ?_) (fun q => ?_)
  · have c86 : fr = (0 : Int32) := own_eq.1 q
    show Ends p e below _ T4 (mkF m 110 #[.val (.int i0), .val (.int i1), .val (.int i2), .val (.int i3), .val (.int i4), .val (.ref b1), .val (.int z1), .val (.int z2), .val (.int z3), .val (.int z1), .val (.int (z1 + z2)), .val (.int ((z1 + z2) + z3)), .val (.int fr), .val (.int to1), .unset, .unset, .unset] [])
    refine Ends.by (fun _ => XS.iconst X4.here hx rfl (hb hby at_110)) ?_
    show Ends p e below _ T4 (mkF m 111 #[.val (.int i0), .val (.int i1), .val (.int i2), .val (.int i3), .val (.int i4), .val (.ref b1), .val (.int z1), .val (.int z2), .val (.int z3), .val (.int z1), .val (.int (z1 + z2)), .val (.int ((z1 + z2) + z3)), .val (.int fr), .val (.int to1), .unset, .unset, .unset] [(.int (1 : Int32))])
    refine Ends.by (fun _ => XS.goto X4.here hx rfl (pc0 := 111) (pc' := 115) rfl (hb hby at_111) (by decide) (by decide)) ?_
    show Ends p e below _ T4 (mkF m 115 #[.val (.int i0), .val (.int i1), .val (.int i2), .val (.int i3), .val (.int i4), .val (.ref b1), .val (.int z1), .val (.int z2), .val (.int z3), .val (.int z1), .val (.int (z1 + z2)), .val (.int ((z1 + z2) + z3)), .val (.int fr), .val (.int to1), .unset, .unset, .unset] [(.int (1 : Int32))])
    have ev : (own_isB fr z1 (z1 + z2) ((z1 + z2) + z3)) = (1 : Int32) := by rw [own_isB, if_pos c86]
    rw [ev] at J1
    exact J1
  · have c86 : ¬ (fr = (0 : Int32)) := own_eq.2 q
    show Ends p e below _ T4 (mkF m 89 #[.val (.int i0), .val (.int i1), .val (.int i2), .val (.int i3), .val (.int i4), .val (.ref b1), .val (.int z1), .val (.int z2), .val (.int z3), .val (.int z1), .val (.int (z1 + z2)), .val (.int ((z1 + z2) + z3)), .val (.int fr), .val (.int to1), .unset, .unset, .unset] [])
    refine Ends.by (fun _ => XS.iload X4.here hx rfl (hb hby at_89) rfl) ?_
    show Ends p e below _ T4 (mkF m 91 #[.val (.int i0), .val (.int i1), .val (.int i2), .val (.int i3), .val (.int i4), .val (.ref b1), .val (.int z1), .val (.int z2), .val (.int z3), .val (.int z1), .val (.int (z1 + z2)), .val (.int ((z1 + z2) + z3)), .val (.int fr), .val (.int to1), .unset, .unset, .unset] [(.int fr)])
    refine Ends.by (fun _ => XS.iload X4.here hx rfl (hb hby at_91) rfl) ?_
    show Ends p e below _ T4 (mkF m 93 #[.val (.int i0), .val (.int i1), .val (.int i2), .val (.int i3), .val (.int i4), .val (.ref b1), .val (.int z1), .val (.int z2), .val (.int z3), .val (.int z1), .val (.int (z1 + z2)), .val (.int ((z1 + z2) + z3)), .val (.int fr), .val (.int to1), .unset, .unset, .unset] [(.int z1), (.int fr)])
    refine Ends.icmp X4 hx (hb hby at_93) 110 (by decide) (by decide) (fun q => ?_) (fun q => ?_)
    · have c93 : fr = z1 := own_eq.1 q
      show Ends p e below _ T4 (mkF m 110 #[.val (.int i0), .val (.int i1), .val (.int i2), .val (.int i3), .val (.int i4), .val (.ref b1), .val (.int z1), .val (.int z2), .val (.int z3), .val (.int z1), .val (.int (z1 + z2)), .val (.int ((z1 + z2) + z3)), .val (.int fr), .val (.int to1), .unset, .unset, .unset] [])
      refine Ends.by (fun _ => XS.iconst X4.here hx rfl (hb hby at_110)) ?_
      show Ends p e below _ T4 (mkF m 111 #[.val (.int i0), .val (.int i1), .val (.int i2), .val (.int i3), .val (.int i4), .val (.ref b1), .val (.int z1), .val (.int z2), .val (.int z3), .val (.int z1), .val (.int (z1 + z2)), .val (.int ((z1 + z2) + z3)), .val (.int fr), .val (.int to1), .unset, .unset, .unset] [(.int (1 : Int32))])
      refine Ends.by (fun _ => XS.goto X4.here hx rfl (pc0 := 111) (pc' := 115) rfl (hb hby at_111) (by decide) (by decide)) ?_
      show Ends p e below _ T4 (mkF m 115 #[.val (.int i0), .val (.int i1), .val (.int i2), .val (.int i3), .val (.int i4), .val (.ref b1), .val (.int z1), .val (.int z2), .val (.int z3), .val (.int z1), .val (.int (z1 + z2)), .val (.int ((z1 + z2) + z3)), .val (.int fr), .val (.int to1), .unset, .unset, .unset] [(.int (1 : Int32))])
      have ev : (own_isB fr z1 (z1 + z2) ((z1 + z2) + z3)) = (1 : Int32) := by rw [own_isB, if_neg c86, if_pos c93]
      rw [ev] at J1
      exact J1
    · have c93 : ¬ (fr = z1) := own_eq.2 q
      show Ends p e below _ T4 (mkF m 96 #[.val (.int i0), .val (.int i1), .val (.int i2), .val (.int i3), .val (.int i4), .val (.ref b1), .val (.int z1), .val (.int z2), .val (.int z3), .val (.int z1), .val (.int (z1 + z2)), .val (.int ((z1 + z2) + z3)), .val (.int fr), .val (.int to1), .unset, .unset, .unset] [])
      refine Ends.by (fun _ => XS.iload X4.here hx rfl (hb hby at_96) rfl) ?_
      show Ends p e below _ T4 (mkF m 98 #[.val (.int i0), .val (.int i1), .val (.int i2), .val (.int i3), .val (.int i4), .val (.ref b1), .val (.int z1), .val (.int z2), .val (.int z3), .val (.int z1), .val (.int (z1 + z2)), .val (.int ((z1 + z2) + z3)), .val (.int fr), .val (.int to1), .unset, .unset, .unset] [(.int fr)])
      refine Ends.by (fun _ => XS.iload X4.here hx rfl (hb hby at_98) rfl) ?_
      show Ends p e below _ T4 (mkF m 100 #[.val (.int i0), .val (.int i1), .val (.int i2), .val (.int i3), .val (.int i4), .val (.ref b1), .val (.int z1), .val (.int z2), .val (.int z3), .val (.int z1), .val (.int (z1 + z2)), .val (.int ((z1 + z2) + z3)), .val (.int fr), .val (.int to1), .unset, .unset, .unset] [(.int (z1 + z2)), (.int fr)])
      refine Ends.icmp X4 hx (hb hby at_100) 110 (by decide) (by decide) (fun q => ?_) (fun q => ?_)
      · have c100 : fr = (z1 + z2) := own_eq.1 q
        show Ends p e below _ T4 (mkF m 110 #[.val (.int i0), .val (.int i1), .val (.int i2), .val (.int i3), .val (.int i4), .val (.ref b1), .val (.int z1), .val (.int z2), .val (.int z3), .val (.int z1), .val (.int (z1 + z2)), .val (.int ((z1 + z2) + z3)), .val (.int fr), .val (.int to1), .unset, .unset, .unset] [])
        refine Ends.by (fun _ => XS.iconst X4.here hx rfl (hb hby at_110)) ?_
        show Ends p e below _ T4 (mkF m 111 #[.val (.int i0), .val (.int i1), .val (.int i2), .val (.int i3), .val (.int i4), .val (.ref b1), .val (.int z1), .val (.int z2), .val (.int z3), .val (.int z1), .val (.int (z1 + z2)), .val (.int ((z1 + z2) + z3)), .val (.int fr), .val (.int to1), .unset, .unset, .unset] [(.int (1 : Int32))])
        refine Ends.by (fun _ => XS.goto X4.here hx rfl (pc0 := 111) (pc' := 115) rfl (hb hby at_111) (by decide) (by decide)) ?_
        show Ends p e below _ T4 (mkF m 115 #[.val (.int i0), .val (.int i1), .val (.int i2), .val (.int i3), .val (.int i4), .val (.ref b1), .val (.int z1), .val (.int z2), .val (.int z3), .val (.int z1), .val (.int (z1 + z2)), .val (.int ((z1 + z2) + z3)), .val (.int fr), .val (.int to1), .unset, .unset, .unset] [(.int (1 : Int32))])
        have ev : (own_isB fr z1 (z1 + z2) ((z1 + z2) + z3)) = (1 : Int32) := by rw [own_isB, if_neg c86, if_neg c93, if_pos c100]
        rw [ev] at J1
        exact J1
      · have c100 : ¬ (fr = (z1 + z2)) := own_eq.2 q
        show Ends p e below _ T4 (mkF m 103 #[.val (.int i0), .val (.int i1), .val (.int i2), .val (.int i3), .val (.int i4), .val (.ref b1), .val (.int z1), .val (.int z2), .val (.int z3), .val (.int z1), .val (.int (z1 + z2)), .val (.int ((z1 + z2) + z3)), .val (.int fr), .val (.int to1), .unset, .unset, .unset] [])
        refine Ends.by (fun _ => XS.iload X4.here hx rfl (hb hby at_103) rfl) ?_
        show Ends p e below _ T4 (mkF m 105 #[.val (.int i0), .val (.int i1), .val (.int i2), .val (.int i3), .val (.int i4), .val (.ref b1), .val (.int z1), .val (.int z2), .val (.int z3), .val (.int z1), .val (.int (z1 + z2)), .val (.int ((z1 + z2) + z3)), .val (.int fr), .val (.int to1), .unset, .unset, .unset] [(.int fr)])
        refine Ends.by (fun _ => XS.iload X4.here hx rfl (hb hby at_105) rfl) ?_
        show Ends p e below _ T4 (mkF m 107 #[.val (.int i0), .val (.int i1), .val (.int i2), .val (.int i3), .val (.int i4), .val (.ref b1), .val (.int z1), .val (.int z2), .val (.int z3), .val (.int z1), .val (.int (z1 + z2)), .val (.int ((z1 + z2) + z3)), .val (.int fr), .val (.int to1), .unset, .unset, .unset] [(.int ((z1 + z2) + z3)), (.int fr)])
        refine Ends.icmp X4 hx (hb hby at_107) 114 (by decide) (by decide) (fun q => ?_) (fun q => ?_)
        · have c107 : fr < ((z1 + z2) + z3) := own_lt.1 q
          show Ends p e below _ T4 (mkF m 114 #[.val (.int i0), .val (.int i1), .val (.int i2), .val (.int i3), .val (.int i4), .val (.ref b1), .val (.int z1), .val (.int z2), .val (.int z3), .val (.int z1), .val (.int (z1 + z2)), .val (.int ((z1 + z2) + z3)), .val (.int fr), .val (.int to1), .unset, .unset, .unset] [])
          refine Ends.by (fun _ => XS.iconst X4.here hx rfl (hb hby at_114)) ?_
          show Ends p e below _ T4 (mkF m 115 #[.val (.int i0), .val (.int i1), .val (.int i2), .val (.int i3), .val (.int i4), .val (.ref b1), .val (.int z1), .val (.int z2), .val (.int z3), .val (.int z1), .val (.int (z1 + z2)), .val (.int ((z1 + z2) + z3)), .val (.int fr), .val (.int to1), .unset, .unset, .unset] [(.int (0 : Int32))])
          have ev : (own_isB fr z1 (z1 + z2) ((z1 + z2) + z3)) = (0 : Int32) := by rw [own_isB, if_neg c86, if_neg c93, if_neg c100, if_pos c107]
          rw [ev] at J1
          exact J1
        · have c107 : ¬ (fr < ((z1 + z2) + z3)) := own_lt.2 q
          show Ends p e below _ T4 (mkF m 110 #[.val (.int i0), .val (.int i1), .val (.int i2), .val (.int i3), .val (.int i4), .val (.ref b1), .val (.int z1), .val (.int z2), .val (.int z3), .val (.int z1), .val (.int (z1 + z2)), .val (.int ((z1 + z2) + z3)), .val (.int fr), .val (.int to1), .unset, .unset, .unset] [])
          refine Ends.by (fun _ => XS.iconst X4.here hx rfl (hb hby at_110)) ?_
          show Ends p e below _ T4 (mkF m 111 #[.val (.int i0), .val (.int i1), .val (.int i2), .val (.int i3), .val (.int i4), .val (.ref b1), .val (.int z1), .val (.int z2), .val (.int z3), .val (.int z1), .val (.int (z1 + z2)), .val (.int ((z1 + z2) + z3)), .val (.int fr), .val (.int to1), .unset, .unset, .unset] [(.int (1 : Int32))])
          refine Ends.by (fun _ => XS.goto X4.here hx rfl (pc0 := 111) (pc' := 115) rfl (hb hby at_111) (by decide) (by decide)) ?_
          show Ends p e below _ T4 (mkF m 115 #[.val (.int i0), .val (.int i1), .val (.int i2), .val (.int i3), .val (.int i4), .val (.ref b1), .val (.int z1), .val (.int z2), .val (.int z3), .val (.int z1), .val (.int (z1 + z2)), .val (.int ((z1 + z2) + z3)), .val (.int fr), .val (.int to1), .unset, .unset, .unset] [(.int (1 : Int32))])
          have ev : (own_isB fr z1 (z1 + z2) ((z1 + z2) + z3)) = (1 : Int32) := by rw [own_isB, if_neg c86, if_neg c93, if_neg c100, if_neg c107]
          rw [ev] at J1
          exact J1
set_option maxRecDepth 65536 in
set_option maxHeartbeats 40000000 in
theorem comes_1 {Post : Tables → Env → Array Value → State → Outcome → State → Prop} (hpost : ∀ tb e args s v u, (limb_1_1.after args s (.returned v) u = true ∧ limb_1_2.after args s (.returned v) u = true) → FrameEnd s (.returned v) u (Jvm.fieldLocs frame_1_writes args s ++ Jvm.arrayLocs frame_1_arrays args s ++ Jvm.staticLocs frame_1_statics s) 16 128 → Post tb e args s (.returned v) u) :
    ArmFor flags0 classFile x code maxLocals ret World_1 tables_1 room_1 Calls_1 rest_1 Pre_1 Post := by
  intro l hfl _ _ p e ha hc hk s m args below hf hA hF happ hP
  obtain ⟨hcalls, hrest, hpre⟩ := hP
  obtain ⟨-, -, -, hnamed, -, -, -, hat⟩ := (Spec.applies_iff hf).mp happ
  obtain ⟨hg, hn⟩ := and_e (Cond.before_iff.mp (show (Jvm.Cond.and given_1 narrow_1).before args s = true from hpre))
  obtain ⟨hcount, g0⟩ := and_e hg
  obtain ⟨k0, g1⟩ := and_e g0
  obtain ⟨k1, g2⟩ := and_e g1
  obtain ⟨k2, g3⟩ := and_e g2
  obtain ⟨k3, g4⟩ := and_e g3
  obtain ⟨w0, w1, w2, w3, w4, rfl⟩ : ∃ w0 w1 w2 w3 w4 : Value, args = #[w0, w1, w2, w3, w4] := by
    have hs : args.size = 5 := by simpa [Cond.value, given_1] using hcount
    obtain ⟨L⟩ := args
    match L, hs with
    | [w0, w1, w2, w3, w4], _ => exact ⟨w0, w1, w2, w3, w4, rfl⟩
  have hw := fun d (hd : d ∈ tables_1) => atoms_spec (ws := Jvm.Cond.code x code maxLocals ret :: tables_1) hat d (List.mem_cons_of_mem _ hd)
  obtain ⟨i0, ei0⟩ := is_v k0
  obtain rfl : w0 = (.int i0) := Option.some.inj ei0
  obtain ⟨i1, ei1⟩ := is_v k1
  obtain rfl : w1 = (.int i1) := Option.some.inj ei1
  obtain ⟨i2, ei2⟩ := is_v k2
  obtain rfl : w2 = (.int i2) := Option.some.inj ei2
  obtain ⟨i3, ei3⟩ := is_v k3
  obtain rfl : w3 = (.int i3) := Option.some.inj ei3
  obtain ⟨i4, ei4⟩ := is_v g4
  obtain rfl : w4 = (.int i4) := Option.some.inj ei4
  obtain ⟨n, o, h1, h2, h3, _, L, rfl, ⟨rfl, N⟩, hq⟩ := con_0 l s _ hw i0 i1 i2 i3 i4 s.heap s.heap.size (Nat.le_refl _) tables_1 p e ha hc hk s m _ below hf ((Spec.applies_iff_loose hf).mp happ).1 ⟨rfl, State.Warmed39.refl s, rfl⟩ trivial
  refine ⟨n, _, h1, h2, h3, hpost _ _ _ _ _ _ ⟨Cond.after_iff.mpr rfl, Cond.after_iff.mpr (eq_i res_at (Term.int_eval (1)) rfl)⟩ ⟨hq.1, hq.2.1, (hq.2.2.sift fun y hy => Or.inr (N y hy)).mono (by decide) (by decide)⟩⟩
theorem main_1_1 : Claimed_1_1 := comes_1 fun _ _ _ _ _ _ h hF => ⟨h.1, hF⟩
theorem main_1_2 : Claimed_1_2 := comes_1 fun _ _ _ _ _ _ h hF => ⟨h.2, hF⟩
end Jvm.Pilot.@@N@@
namespace Jvm.Pilot.@@N@@
open Jvm Jvm.ClassFile Sem Op Lib Jvm.Free Jvm.Stand Jvm.Pilot.@@N@@.Jvm.D
/-! MADE BY PROGRAM (witnessworld.py) out of the Statement's table words and the real class files: 9 classes; the members and pool entries that the words name. The judged class is class 1, her method 2. -/
namespace start1
open Jvm.ClassFile
def u (s : String) : CpInfo := .utf8 (stringToUtf16 s)
/-- a pool by its gaps: so many unusable entries, then the entry; so many at the end -/
def gap : Nat → List CpInfo → List CpInfo
  | 0, r => r
  | n + 1, r => .unusable :: gap n r
def poolList (es : List (Nat × CpInfo)) (last : Nat) : List CpInfo := es.foldr (fun e r => gap e.1 (e.2 :: r)) (gap last [])
def pool (es : List (Nat × CpInfo)) (last : Nat) : Array CpInfo := ⟨poolList es last⟩
def fileOf (pool : Array CpInfo) (this : Nat) (attrs : Array Attribute := #[]) (ms : Array MethodInfo := #[]) (fl : Nat := 33) (sup : Nat := 0) (ifs : Array Nat := #[]) (fds : Array FieldInfo := #[]) : ClassFile where
  minorVersion := 0
  majorVersion := 65
  constantPool := pool
  accessFlags := fl
  thisClass := this
  superClass := sup
  interfaces := ifs
  fields := fds
  methods := ms
  attributes := attrs
def plain (name : String) (sup : Option ClassId) : Class where
  name := name
  kind := .ordinary
  loader := none
  accessFlags := 33
  super := sup
  interfaces := #[]
  cf := none
  fields := #[]
  methods := #[]
  instanceTypes := #[]
  staticTypes := #[]
  resolved := #[]
  callSites := []
  init := .initialized
  statics := none
  mirror := none

def pool0 : Array CpInfo := pool [(5, u "<init>"), (0, u "()V"), (1, .class_ 10), (1, u "java/lang/Object")] 113

def k0m0 : Method := { name := "<init>", desc := "()V", sig := { parameters := [], returnType := none }, accessFlags := 1, code := none }
/-- java/lang/Object -/
def k0 : Class := { plain "java/lang/Object" none with
  accessFlags := 33
  interfaces := #[]
  cf := some (fileOf pool0 8 #[] #[{ accessFlags := 1, nameIndex := 5, descriptorIndex := 6, attributes := #[] }] 33 0 #[] #[])
  fields := #[]
  methods := #[k0m0]
  instanceTypes := #[]
  staticTypes := #[]
  resolved := Array.replicate 124 none
  statics := none }

def pool1 : Array CpInfo := pool [(2, .class_ 4), (1, u "java/lang/Object"), (0, u "<init>"), (0, u "()V"), (0, .integer 65535), (0, .integer 63488), (0, .integer 55296), (0, .integer 57343), (0, .integer 65536), (0, .integer 1048575), (0, .methodref 14 15), (0, .class_ 16), (0, .nameAndType 17 18), (0, u "com/example/vedette/vedette/records/Utf8WellFormedPartPinLaw"), (0, u "put"), (0, u "([BII)I"), (0, .integer 2147483647), (0, .methodref 21 22), (0, .class_ 23), (0, .nameAndType 24 25), (0, u "com/example/vedette/vedette/records/Utf8"), (0, u "wellFormedPart"), (0, u "([BII)Z"), (3, u "law"), (0, u "(IIIII)Z")] 4

def k1m0 : Method := { name := "<init>", desc := "()V", sig := { parameters := [], returnType := none }, accessFlags := 2, code := none }
def k1c1 : Code := { maxStack := 5, maxLocals := 6, code := method_2_code, exceptionTable := #[], attributes := #[] }
def k1m1 : Method := { name := "put", desc := "([BII)I", sig := { parameters := [(.array .byte), .int, .int], returnType := some .int }, accessFlags := 10, code := some k1c1 }
def k1c2 : Code := { maxStack := 4, maxLocals := 17, code := code, exceptionTable := #[], attributes := #[] }
def k1m2 : Method := { name := "law", desc := "(IIIII)Z", sig := { parameters := [.int, .int, .int, .int, .int], returnType := some .boolean }, accessFlags := 9, code := some k1c2 }
/-- com/example/vedette/vedette/records/Utf8WellFormedPartPinLaw -/
def k1 : Class := { plain "com/example/vedette/vedette/records/Utf8WellFormedPartPinLaw" (some 0) with
  accessFlags := 49
  interfaces := #[]
  cf := some (fileOf pool1 14 #[] #[{ accessFlags := 2, nameIndex := 5, descriptorIndex := 6, attributes := #[] }, { accessFlags := 10, nameIndex := 17, descriptorIndex := 18, attributes := #[] }, { accessFlags := 9, nameIndex := 29, descriptorIndex := 30, attributes := #[] }] 49 2 #[] #[])
  fields := #[]
  methods := #[k1m0, k1m1, k1m2]
  instanceTypes := #[]
  staticTypes := #[]
  resolved := Array.replicate 35 none
  statics := none }

def pool2 : Array CpInfo := pool [(2, .class_ 4), (1, u "java/lang/Object"), (0, u "<init>"), (0, u "()V"), (1, .class_ 10), (1, u "com/example/vedette/vedette/records/Utf8"), (5, .methodref 8 17), (0, .nameAndType 18 19), (0, u "startsCharacter"), (0, u "([BI)Z"), (3, u "([BII)Z"), (1, u "wellFormedPart")] 4

def k2m0 : Method := { name := "<init>", desc := "()V", sig := { parameters := [], returnType := none }, accessFlags := 2, code := none }
def k2c1 : Code := { maxStack := 2, maxLocals := 3, code := prog_75_method_3_code, exceptionTable := #[], attributes := #[] }
def k2m1 : Method := { name := "wellFormedPart", desc := "([BII)Z", sig := { parameters := [(.array .byte), .int, .int], returnType := some .boolean }, accessFlags := 8, code := some k2c1 }
def k2c2 : Code := { maxStack := 2, maxLocals := 2, code := prog_75_method_4_code, exceptionTable := #[], attributes := #[] }
def k2m2 : Method := { name := "startsCharacter", desc := "([BI)Z", sig := { parameters := [(.array .byte), .int], returnType := some .boolean }, accessFlags := 10, code := some k2c2 }
/-- com/example/vedette/vedette/records/Utf8 -/
def k2 : Class := { plain "com/example/vedette/vedette/records/Utf8" (some 0) with
  accessFlags := 48
  interfaces := #[]
  cf := some (fileOf pool2 8 #[] #[{ accessFlags := 2, nameIndex := 5, descriptorIndex := 6, attributes := #[] }, { accessFlags := 8, nameIndex := 25, descriptorIndex := 23, attributes := #[] }, { accessFlags := 10, nameIndex := 18, descriptorIndex := 19, attributes := #[] }] 48 2 #[] #[])
  fields := #[]
  methods := #[k2m0, k2m1, k2m2]
  instanceTypes := #[]
  staticTypes := #[]
  resolved := Array.replicate 30 none
  statics := none }

def pool3 : Array CpInfo := pool [(1, u "java/lang/Cloneable"), (0, .class_ 1), (0, u "java/lang/Object"), (0, .class_ 3)] 3

/-- java/lang/Cloneable -/
def k3 : Class := { plain "java/lang/Cloneable" (some 0) with
  accessFlags := 1537
  interfaces := #[]
  cf := some (fileOf pool3 2 #[] #[] 1537 4 #[] #[])
  fields := #[]
  methods := #[]
  instanceTypes := #[]
  staticTypes := #[]
  resolved := Array.replicate 8 none
  statics := none }

def pool4 : Array CpInfo := pool [(1, u "java/io/Serializable"), (0, .class_ 1), (0, u "java/lang/Object"), (0, .class_ 3)] 3

/-- java/io/Serializable -/
def k4 : Class := { plain "java/io/Serializable" (some 0) with
  accessFlags := 1537
  interfaces := #[]
  cf := some (fileOf pool4 2 #[] #[] 1537 4 #[] #[])
  fields := #[]
  methods := #[]
  instanceTypes := #[]
  staticTypes := #[]
  resolved := Array.replicate 8 none
  statics := none }

/-- the primitive byte -/
def k5 : Class := { plain "byte" none with kind := .primitive 'B', accessFlags := 0x411 }
/-- [B -/
def k6 : Class := { plain "[B" (some 0) with kind := .array 5 .byte, interfaces := #[3, 4], accessFlags := 1041 }

/-- the primitive int -/
def k7 : Class := { plain "int" none with kind := .primitive 'I', accessFlags := 0x411 }
/-- [I -/
def k8 : Class := { plain "[I" (some 0) with kind := .array 7 .int, interfaces := #[3, 4], accessFlags := 1041 }

def heap : Heap := #[]
def classes : Array Class := #[k0, k1, k2, k3, k4, k5, k6, k7, k8]
def interned : List (Array UInt16 × Addr) := []
def slotsUsed : Nat := 0
def theMethod : MethodId := ⟨1, 2⟩
def args0 : Array Value := #[.int 5, .int 7, .int 9, .int 3, .int 4]
def aboutOver (below : List Frame) : State where
  vm := { classes := classes, interned := interned.toArray }
  heap := heap
  slotsUsed := slotsUsed
  threads := #[{ frames := .invoking theMethod args0 :: below }]
def below0 : List Frame := [.native { method := ⟨0, 0⟩, args := #[] }]
def about1 : State := aboutOver below0
def p0 : Program := .bare "" "" ""
def e0 : Env := launch0.env 0 0 0
theorem w_frames : about1.frames = Frame.invoking theMethod args0 :: below0 := rfl
set_option maxRecDepth 65536 in
theorem w_args : argsFit about1.vm theMethod args0 = true := by decide +kernel
set_option maxRecDepth 65536 in
theorem w_heap : heapFits about1 = true := by decide +kernel
set_option maxRecDepth 65536 in
theorem w_runnable : about1.curStatus? = some .runnable := by decide +kernel
set_option maxRecDepth 65536 in
theorem w_alone : about1.alone = true := by decide +kernel
set_option maxRecDepth 65536 in
theorem w_named : about1.methodNamed? x = some theMethod := by decide +kernel
set_option maxRecDepth 65536 in
theorem w_hears : about1.hears theMethod below0 = true := by decide +kernel
set_option maxRecDepth 65536 in
theorem w_ripe : about1.ripe theMethod args0 below0 = true := by decide +kernel
theorem w_running : about1.status = .running := rfl
set_option maxRecDepth 65536 in
theorem w_room : about1.hasRoom e0.platform room_1 = true :=
  launch0.hasRoom_least _ room_1 (by decide +kernel) (by decide +kernel) (by decide +kernel) (by decide +kernel) (by decide +kernel) (by decide +kernel)
theorem allAtoms_all (ts : List Jvm.Cond) (a : Array Jvm.Value) (st : Jvm.State) : (allAtoms ts).before a st = ts.all (fun c => c.before a st) := by
  induction ts with
  | nil => rfl
  | cons c t ih =>
    show (Jvm.Cond.and c (allAtoms t)).before a st = _
    rw [Jvm.Cond.before_and, ih, List.all_cons]
def words1 : List Jvm.Cond := Jvm.Cond.code x code maxLocals ret :: tables_1
/-- a 'code' word, met by the world's own term for the bytes: nothing is compared byte by byte -/
theorem code_word {y : MethodName} {bytes : ByteArray} {mx : Nat} {rt : Option FieldType} {a : Array Value} {s : State} {m : MethodId} {meth : Method} {c : Code} (h1 : s.methodNamed? y = some m) (h2 : s.vm.method? m = some meth) (h3 : meth.code = some c) (h4 : c.code = bytes)
    (h5 : (c.maxLocals == mx && c.exceptionTable.isEmpty && decide (c.maxStack ≤ mostOperands) && decide (meth.sig.returnType = rt) && !meth.locks && decide (parseMethodDescriptor y.desc = some meth.sig)) = true) : (Jvm.Cond.code y bytes mx rt).before a s = true := by
  simp only [Bool.and_eq_true, beq_iff_eq, Bool.not_eq_true', decide_eq_true_eq] at h5
  obtain ⟨⟨⟨⟨⟨g1, g2⟩, g3⟩, g4⟩, g5⟩, g6⟩ := h5
  simp [Cond.before, Cond.holds, Cond.value, h1, h2, h3, h4, g1, g2, g3, g4, g5, g6]
def isCode : Jvm.Cond → Bool
  | .code _ _ _ _ => true
  | _ => false
theorem all_split {L : List Jvm.Cond} {P : Jvm.Cond → Bool} (h1 : L.all (fun c => isCode c || P c) = true) (h2 : ∀ c ∈ L.filter isCode, P c = true) : L.all P = true := by
  refine List.all_eq_true.mpr fun c hc => ?_
  have h := List.all_eq_true.mp h1 c hc
  rcases Bool.eq_false_or_eq_true (isCode c) with hi | hi
  · exact h2 c (List.mem_filter.mpr ⟨hc, hi⟩)
  · simpa [hi] using h
set_option maxRecDepth 65536 in
theorem w_c0 : (Jvm.Cond.code x code maxLocals ret).before args0 about1 = true := code_word (m := ⟨1, 2⟩) (meth := k1m2) (c := k1c2) (by decide +kernel) rfl rfl rfl (by decide +kernel)
set_option maxRecDepth 65536 in
theorem w_c1 : (Jvm.Cond.code ({ cls := "com/example/vedette/vedette/records/Utf8WellFormedPartPinLaw", name := "put", desc := "([BII)I" } : Jvm.MethodName) method_2_code (6 : Nat) (Option.some Jvm.ClassFile.FieldType.int)).before args0 about1 = true := code_word (m := ⟨1, 1⟩) (meth := k1m1) (c := k1c1) (by decide +kernel) rfl rfl rfl (by decide +kernel)
set_option maxRecDepth 65536 in
theorem w_c2 : (Jvm.Cond.code ({ cls := "com/example/vedette/vedette/records/Utf8", name := "wellFormedPart", desc := "([BII)Z" } : Jvm.MethodName) prog_75_method_3_code (3 : Nat) (Option.some Jvm.ClassFile.FieldType.boolean)).before args0 about1 = true := code_word (m := ⟨2, 1⟩) (meth := k2m1) (c := k2c1) (by decide +kernel) rfl rfl rfl (by decide +kernel)
set_option maxRecDepth 65536 in
theorem w_c3 : (Jvm.Cond.code ({ cls := "com/example/vedette/vedette/records/Utf8", name := "startsCharacter", desc := "([BI)Z" } : Jvm.MethodName) prog_75_method_4_code (2 : Nat) (Option.some Jvm.ClassFile.FieldType.boolean)).before args0 about1 = true := code_word (m := ⟨2, 2⟩) (meth := k2m2) (c := k2c2) (by decide +kernel) rfl rfl rfl (by decide +kernel)
def codes1 : List Jvm.Cond := [Jvm.Cond.code x code maxLocals ret, Jvm.Cond.code ({ cls := "com/example/vedette/vedette/records/Utf8WellFormedPartPinLaw", name := "put", desc := "([BII)I" } : Jvm.MethodName) method_2_code (6 : Nat) (Option.some Jvm.ClassFile.FieldType.int), Jvm.Cond.code ({ cls := "com/example/vedette/vedette/records/Utf8", name := "wellFormedPart", desc := "([BII)Z" } : Jvm.MethodName) prog_75_method_3_code (3 : Nat) (Option.some Jvm.ClassFile.FieldType.boolean), Jvm.Cond.code ({ cls := "com/example/vedette/vedette/records/Utf8", name := "startsCharacter", desc := "([BI)Z" } : Jvm.MethodName) prog_75_method_4_code (2 : Nat) (Option.some Jvm.ClassFile.FieldType.boolean)]
set_option maxRecDepth 65536 in
theorem codes_eq : words1.filter isCode = codes1 := rfl
theorem w_codes : ∀ c ∈ words1.filter isCode, c.before args0 about1 = true := by
  rw [codes_eq]
  intro c hc
  simp only [codes1, List.mem_cons, List.not_mem_nil, or_false] at hc
  rcases hc with rfl | rfl | rfl | rfl
  · exact w_c0
  · exact w_c1
  · exact w_c2
  · exact w_c3
set_option maxRecDepth 65536 in
theorem w_t1 : words1.all (fun c => isCode c || c.before args0 about1) = true := by decide +kernel
theorem w_tables : (allAtoms (Jvm.Cond.code x code maxLocals ret :: tables_1)).before args0 about1 = true := by
  rw [allAtoms_all]
  show words1.all (fun c => c.before args0 about1) = true
  refine all_split ?_ w_codes
  rw [w_t1]
set_option maxRecDepth 65536 in
theorem w_case : (Jvm.Cond.and given_1 narrow_1).before args0 about1 = true := by decide +kernel
theorem w_applies : (headSpec (Jvm.Cond.code x code maxLocals ret :: tables_1) room_1).applies x e0.platform about1 = true :=
  (Spec.applies_iff w_frames).mpr ⟨w_running, w_runnable, w_alone, w_named, w_hears, w_ripe, w_room, w_tables⟩
theorem atStart : AtStart classFile x code maxLocals ret World_1 tables_1 room_1 Calls_1 rest_1 Pre_1 launch0 p0 e0 about1 theMethod args0 below0 :=
  ⟨lists_1, trivial, launch0.admits_env _ _ _, launch0.least_env, fairChoices_fair.cas, fairChoices_fair.clock, w_frames, w_args, w_heap, w_applies, trivial, trivial, w_case⟩
end start1
theorem witness_1 : WitnessClaimed_1 := ⟨start1.p0, start1.e0, start1.about1, start1.theMethod, start1.args0, start1.below0, start1.atStart⟩
end Jvm.Pilot.@@N@@
