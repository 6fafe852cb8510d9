import JvmDerived
import JvmDerived.Pilot.@@N@@Statement
import JvmDerived.Pilot.@@N@@Code
set_option linter.unusedVariables false
set_option linter.unusedSimpArgs false
namespace Jvm.Pilot.@@N@@
open Jvm Jvm.ClassFile Sem Op Lib Jvm.Free Jvm.Stand Jvm.LawKit Jvm.RoadKit Bundle Jvm.Pilot.@@N@@.Jvm.D
section Own
variable {p : Program} {l : Launch} {e : Env} {R : Room} {s : State} {m : MethodId} {args : Array Value} {below : List Frame} {meth : Method} {c : Code} {T T' Z : State} {locs : List Loc} {cells slots : Nat} {P : Outcome → State → Prop} {a0 : Array Value} {h : Heap}
/-- from the frame g over the state T the run ends, and P holds of the end -/
def Ends (p : Program) (e : Env) (below : List Frame) (P : Outcome → State → Prop) (T : State) (g : JFrame) : Prop :=
  ∃ s₂ o, Steps p.tables e below (T.setTop g) s₂ ∧ s₂.status = .running ∧ Ended s₂ below o ∧ P o s₂
theorem Ends.by {g g' : JFrame} (h : ∀ t, Steps p.tables e below (T'.setTop g') t → Steps p.tables e below (T.setTop g) t) (k : Ends p e below P T' g') : Ends p e below P T g :=
  let ⟨s₂, o, h1, r⟩ := k; ⟨s₂, o, h _ h1, r⟩
theorem Ends.on {g g' : JFrame} (h : Steps p.tables e below (T.setTop g) (T'.setTop g')) (k : Ends p e below P T' g') : Ends p e below P T g :=
  let ⟨s₂, o, h1, r⟩ := k; ⟨s₂, o, h.trans h1, r⟩
/-- the end: it returned v, Q holds of v, the heap and the places written; the frame -/
def Fini (s : State) (Q : Option Value → Heap → List Loc → Prop) (rc rs : Nat) : Outcome → State → Prop :=
  fun o U' => ∃ v L, o = .returned v ∧ Q v U'.heap L ∧ FrameEnd s o U' L rc rs
/-- a body's contract: from these arguments over the heap h0 it returns with Q -/
def Con (l : Launch) (Z : State) (y : MethodName) (bytes : ByteArray) (maxL : Nat) (ret : Option FieldType) (rm : Room) (as' : Array Value) (h0 : Heap) (Q : Option Value → Heap → List Loc → Prop) : Prop :=
  ∀ ws : List Jvm.Cond, MetFree l y (head1 (Jvm.Cond.code y bytes maxL ret :: ws) rm) (fun a U => a = as' ∧ Z.Warmed39 U.vm ∧ U.heap = h0) (fun _ _ _ _ _ => True) (fun _ U o U' => ∃ v L, o = .returned v ∧ Q v U'.heap L ∧ FrameEnd U o U' L rm.cells rm.slots)
theorem Con.intro {y : MethodName} {bytes : ByteArray} {maxL : Nat} {ret : Option FieldType} {rm : Room} {as' : Array Value} {h0 : Heap} {Q : Option Value → Heap → List Loc → Prop} (hpl : plainFor y = true)
    (body : ∀ (p : Program) (e : Env) (s : State) (m : MethodId) (below : List Frame) (meth : Method) (c : Code) (s₁ : State), p.tables.exec = Jvm.exec → c.code = bytes → c.maxLocals = maxL → s.vm.findClass y.cls = some m.cls → meth.name = y.name → meth.sig.returnType = ret → meth.locks = false → Z.Warmed39 s.vm →
      Stand p l e rm s m as' below meth c s₁ [] 0 0 → s₁.heap = h0 → Ends p e below (Fini s Q rm.cells rm.slots) s₁ (entryFrame m as' maxL)) : Con l Z y bytes maxL ret rm as' h0 Q := by
  intro ws
  refine MetFree.of_bodySF hpl hisR ?_
  intro p e s m args below meth c s₁ Bd hml0 hP hK
  obtain ⟨rfl, hZ, hh⟩ := hP
  have X0 : Stand p l e rm s m args below meth c s₁ [] 0 0 := Stand.of_body Bd
  have e0 : s₁.heap = h0 := by rw [← hh, Bd.state]; rfl
  exact body p e s m below meth c s₁ Bd.exec Bd.bytes hml0 (findClass_of_methodNamed Bd.named) (name_of_methodNamed Bd.named Bd.method).1 Bd.returns Bd.notSynchronized hZ X0 e0
theorem Con.mono {y : MethodName} {bytes : ByteArray} {maxL : Nat} {ret : Option FieldType} {rm : Room} {as' : Array Value} {h0 : Heap} {Q Q' : Option Value → Heap → List Loc → Prop} (C : Con l Z y bytes maxL ret rm as' h0 Q) (hq : ∀ v h L, Q v h L → Q' v h L) : Con l Z y bytes maxL ret rm as' h0 Q' :=
  fun ws p e ha hc hk s m args below hf happ hP hK => let ⟨n, o, h1, h2, h3, v, L, r1, r2, r3⟩ := C ws p e ha hc hk s m args below hf happ hP hK; ⟨n, o, h1, h2, h3, v, L, r1, hq _ _ _ r2, r3⟩
theorem Ends.cast {g g' : JFrame} (q : g = g') (k : Ends p e below P T g') : Ends p e below P T g := q ▸ k
theorem Ends.retV (X : Stand p l e R s m args below meth c T locs cells slots) (hx : p.tables.exec = Jvm.exec) (hlk : meth.locks = false) {pc : Nat} {Ls : Array Slot} (hret : meth.sig.returnType = none) (hd : decode c.code pc = .ok (.return_, 1))
    {Q : Option Value → Heap → List Loc → Prop} {rc rs : Nat} (hc : cells ≤ rc) (hs : slots ≤ rs) (hQ : Q none T.heap locs) : Ends p e below (Fini s Q rc rs) T (mkF m pc Ls []) := by
  obtain ⟨fs, hr, hrun, hended, hW, hsame⟩ := X.leave (v := none) (fun _ => rfl) hlk
  exact ⟨_, _, X.returnOut hx hret hd hr, hrun, hended, _, _, rfl, hQ, ⟨_, rfl⟩, hW, hsame.mono hc hs⟩
theorem Ends.retI (X : Stand p l e R s m args below meth c T locs cells slots) (hx : p.tables.exec = Jvm.exec) (hlk : meth.locks = false) {pc : Nat} {Ls : Array Slot} {z : Int32} {rest : List Value} (hret : meth.sig.returnType = some .int) (hd : decode c.code pc = .ok (.ireturn, 1))
    {Q : Option Value → Heap → List Loc → Prop} {rc rs : Nat} (hc : cells ≤ rc) (hs : slots ≤ rs) (hQ : Q (some (.int z)) T.heap locs) : Ends p e below (Fini s Q rc rs) T (mkF m pc Ls (.int z :: rest)) := by
  obtain ⟨fs, hr, hrun, hended, hW, hsame⟩ := X.leave (v := some (.int z)) (fun h => by rw [hret] at h; cases h) hlk
  exact ⟨_, _, retOut X hx hret rfl (Or.inl ⟨rfl, Or.inl rfl, z, rfl⟩) hd hr, hrun, hended, _, _, rfl, hQ, ⟨_, rfl⟩, hW, hsame.mono hc hs⟩
theorem Ends.retL (X : Stand p l e R s m args below meth c T locs cells slots) (hx : p.tables.exec = Jvm.exec) (hlk : meth.locks = false) {pc : Nat} {Ls : Array Slot} {z : Int64} {rest : List Value} (hret : meth.sig.returnType = some .long) (hd : decode c.code pc = .ok (.lreturn, 1))
    {Q : Option Value → Heap → List Loc → Prop} {rc rs : Nat} (hc : cells ≤ rc) (hs : slots ≤ rs) (hQ : Q (some (.long z)) T.heap locs) : Ends p e below (Fini s Q rc rs) T (mkF m pc Ls (.long z :: rest)) := by
  obtain ⟨fs, hr, hrun, hended, hW, hsame⟩ := X.leave (v := some (.long z)) (fun h => by rw [hret] at h; cases h) hlk
  exact ⟨_, _, retOut X hx hret rfl (Or.inr (Or.inl ⟨rfl, rfl, z, rfl⟩)) hd hr, hrun, hended, _, _, rfl, hQ, ⟨_, rfl⟩, hW, hsame.mono hc hs⟩
theorem Ends.retA (X : Stand p l e R s m args below meth c T locs cells slots) (hx : p.tables.exec = Jvm.exec) (hlk : meth.locks = false) {pc : Nat} {Ls : Array Slot} {t : FieldType} {a : Addr} {rest : List Value} (hret : meth.sig.returnType = some t) (ht : t.isReference = true) (hn : narrow t (.ref a) = .ref a) (hd : decode c.code pc = .ok (.areturn, 1))
    {Q : Option Value → Heap → List Loc → Prop} {rc rs : Nat} (hc : cells ≤ rc) (hs : slots ≤ rs) (hQ : Q (some (.ref a)) T.heap locs) : Ends p e below (Fini s Q rc rs) T (mkF m pc Ls (.ref a :: rest)) := by
  obtain ⟨fs, hr, hrun, hended, hW, hsame⟩ := X.leave (v := some (.ref a)) (fun h => by rw [hret] at h; cases h) hlk
  exact ⟨_, _, retOut X hx hret hn (Or.inr (Or.inr (Or.inr (Or.inr ⟨rfl, ht, rfl⟩)))) hd hr, hrun, hended, _, _, rfl, hQ, ⟨_, rfl⟩, hW, hsame.mono hc hs⟩
/-- a boolean that is 0 or 1 -/
theorem Ends.retZ (X : Stand p l e R s m args below meth c T locs cells slots) (hx : p.tables.exec = Jvm.exec) (hlk : meth.locks = false) {pc : Nat} {Ls : Array Slot} {z : Int32} {rest : List Value} (hret : meth.sig.returnType = some .boolean) (hd : decode c.code pc = .ok (.ireturn, 1)) (h01 : z &&& 1 = z)
    {Q : Option Value → Heap → List Loc → Prop} {rc rs : Nat} (hc : cells ≤ rc) (hs : slots ≤ rs) (hQ : Q (some (.int z)) T.heap locs) : Ends p e below (Fini s Q rc rs) T (mkF m pc Ls (.int z :: rest)) := by
  obtain ⟨fs, hr, hrun, hended, hW, hsame⟩ := X.leave (v := some (.int z)) (fun h => by rw [hret] at h; cases h) hlk
  have hn : nar .boolean z = z := h01
  refine ⟨_, _, retN X hx (t := .boolean) hret (by simp) hd (fs := fs) ?_, hrun, hended, _, _, rfl, hQ, ⟨_, rfl⟩, hW, hsame.mono hc hs⟩
  rw [hn]; exact hr
/-- a static method by its contract -/
theorem Ends.callS (X : Stand p l e R s m args below meth c T locs cells slots) (hx : p.tables.exec = Jvm.exec) (hZ : Z.Warmed39 s.vm) {own : String} {index : Nat} {y : MethodName} {bytes : ByteArray} {maxL : Nat} {ret : Option FieldType}
    (hown : s.vm.findClass own = some m.cls) (w1 : (Jvm.Cond.methodLink own index y).before a0 Z = true) (w2 : (Jvm.Cond.static y).before a0 Z = true) (w3 : (Jvm.Cond.initialized y.cls).before a0 Z = true) (w4 : (Jvm.Cond.code y bytes maxL ret).before a0 Z = true)
    (hy : y.cls ≠ "java/lang/invoke/MethodHandle" ∧ y.cls ≠ "java/lang/invoke/VarHandle") {rm : Room} {argsL rest : List Value} {Q : Option Value → Heap → List Loc → Prop} (C : Con l Z y bytes maxL ret rm argsL.toArray h Q) (eT : T.heap = h)
    {pc : Nat} {Ls : Array Slot} (hsize : Ls.size = c.maxLocals) (hd : decode c.code pc = .ok (.invokestatic index, 3)) (hlen : ∀ sig, parseMethodDescriptor y.desc = some sig → argsL.length = sig.parameters.length)
    (W : Nat) (hW : (rest.map fun v => v.category).sum ≤ W) (hf : rm.frames + 1 ≤ R.frames) (hl : W + (maxL + 11) + rm.locals ≤ R.locals) (hc : cells + rm.cells ≤ R.cells) (hs : slots + rm.slots ≤ R.slots)
    (k : ∀ v T' L, Stand p l e R s m args below meth c T' (locs ++ L) (cells + rm.cells) (slots + rm.slots) → Q v T'.heap L → Ends p e below P T' (mkF m (pc + 3) Ls (v.toList ++ rest))) :
    Ends p e below P T (mkF m pc Ls (argsL.reverse ++ rest)) := by
  obtain ⟨v, _, ⟨T1, L1, k1, n1⟩, -, X1, ⟨Lc, hQ, l1, y1, z1⟩, st⟩ := Jvm.LawKit.callS X hx (y := y) hown (mvT hZ w1) (mvT hZ w2) (mvT hZ w3) (mvT hZ w4) hy (backOf (W := W) (C []) hZ w4 w3 hf hl) (g := mkF m pc Ls (argsL.reverse ++ rest)) rfl hsize (argsL := argsL) (rest := rest) hlen rfl (by show 2 * 0 + _ ≤ _; omega) hd (fun _ _ => ⟨rfl, eT, hc, hs⟩)
  dsimp only [Pt.U, Pt.locs, Pt.cells, Pt.slots] at X1 l1 y1 z1 st hQ
  subst l1 y1 z1
  exact Ends.by st (k v T1 Lc X1 hQ)
/-- a constructor by its contract -/
theorem Ends.callI (X : Stand p l e R s m args below meth c T locs cells slots) (hx : p.tables.exec = Jvm.exec) (hZ : Z.Warmed39 s.vm) {own : String} {index : Nat} {y : MethodName} {bytes : ByteArray} {maxL : Nat} (hy1 : y.name = "<init>")
    (hown : s.vm.findClass own = some m.cls) (w1 : (Jvm.Cond.methodLink own index y).before a0 Z = true) (w2 : (Jvm.Cond.instanceMethod y).before a0 Z = true) (w3 : (Jvm.Cond.initialized y.cls).before a0 Z = true) (w4 : (Jvm.Cond.code y bytes maxL none).before a0 Z = true)
    (hy : y.cls ≠ "java/lang/invoke/MethodHandle" ∧ y.cls ≠ "java/lang/invoke/VarHandle") {rm : Room} {a : Addr} {argsL rest : List Value} {Q : Option Value → Heap → List Loc → Prop} (C : Con l Z y bytes maxL none rm (.ref a :: argsL).toArray h Q) (eT : T.heap = h)
    {pc : Nat} {Ls : Array Slot} (hsize : Ls.size = c.maxLocals) (hd : decode c.code pc = .ok (.invokespecial index, 3)) (hlen : ∀ sig, parseMethodDescriptor y.desc = some sig → argsL.length = sig.parameters.length)
    (W : Nat) (hW : (rest.map fun v => v.category).sum ≤ W) (hf : rm.frames + 1 ≤ R.frames) (hl : W + (maxL + 11) + rm.locals ≤ R.locals) (hc : cells + rm.cells ≤ R.cells) (hs : slots + rm.slots ≤ R.slots)
    (k : ∀ v T' L, Stand p l e R s m args below meth c T' (locs ++ L) (cells + rm.cells) (slots + rm.slots) → Q v T'.heap L → Ends p e below P T' (mkF m (pc + 3) Ls (v.toList ++ rest))) :
    Ends p e below P T (mkF m pc Ls (argsL.reverse ++ .ref a :: rest)) := by
  obtain ⟨v, _, ⟨T1, L1, k1, n1⟩, -, X1, ⟨Lc, hQ, l1, y1, z1⟩, st⟩ := X.specialBack hx (y := y) hy1 hown (mvT hZ w1) (mvT hZ w2) (mvT hZ w4) hy (backOf (W := W) (C []) hZ w4 w3 hf hl) (g := mkF m pc Ls (argsL.reverse ++ .ref a :: rest)) rfl hsize (Steps.refl _) (a := a) (argsL := argsL) (rest := rest) hlen rfl (by show 2 * 0 + _ ≤ _; omega) hd (fun _ _ => ⟨rfl, eT, hc, hs⟩)
  dsimp only [Pt.U, Pt.locs, Pt.cells, Pt.slots] at X1 l1 y1 z1 st hQ
  subst l1 y1 z1
  exact Ends.on st (k v T1 Lc X1 hQ)
/-- an instance method, declared and selected in the receiver's own class -/
theorem Ends.callV (X : Stand p l e R s m args below meth c T locs cells slots) (hx : p.tables.exec = Jvm.exec) (hZ : Z.Warmed39 s.vm) {own : String} {index : Nat} {y : MethodName} {bytes : ByteArray} {maxL : Nat} {ret : Option FieldType}
    (hown : s.vm.findClass own = some m.cls) (w1 : (Jvm.Cond.methodLink own index y).before a0 Z = true) (wd : (Jvm.Cond.declares y).before a0 Z = true) (w2 : (Jvm.Cond.instanceMethod y).before a0 Z = true) (ws : (Jvm.Cond.selects y.cls y y).before a0 Z = true) (w3 : (Jvm.Cond.initialized y.cls).before a0 Z = true) (w4 : (Jvm.Cond.code y bytes maxL ret).before a0 Z = true)
    (hy : y.cls ≠ "java/lang/invoke/MethodHandle" ∧ y.cls ≠ "java/lang/invoke/VarHandle") {rm : Room} {a : Addr} {argsL rest : List Value} {Q : Option Value → Heap → List Loc → Prop} (C : Con l Z y bytes maxL ret rm (.ref a :: argsL).toArray h Q) (eT : T.heap = h) (E : Exa Z h a y.cls)
    {pc : Nat} {Ls : Array Slot} (hsize : Ls.size = c.maxLocals) (hd : decode c.code pc = .ok (.invokevirtual index, 3)) (hlen : ∀ sig, parseMethodDescriptor y.desc = some sig → argsL.length = sig.parameters.length)
    (W : Nat) (hW : (rest.map fun v => v.category).sum ≤ W) (hf : rm.frames + 1 ≤ R.frames) (hl : W + (maxL + 11) + rm.locals ≤ R.locals) (hc : cells + rm.cells ≤ R.cells) (hs : slots + rm.slots ≤ R.slots)
    (k : ∀ v T' L, Stand p l e R s m args below meth c T' (locs ++ L) (cells + rm.cells) (slots + rm.slots) → Q v T'.heap L → Ends p e below P T' (mkF m (pc + 3) Ls (v.toList ++ rest))) :
    Ends p e below P T (mkF m pc Ls (argsL.reverse ++ .ref a :: rest)) := by
  obtain ⟨cq, kq, qa, qb, qc⟩ := isOf (T := T) hZ eT E
  obtain ⟨v, _, ⟨T1, L1, k1, n1⟩, -, X1, ⟨Lc, hQ, l1, y1, z1⟩, st⟩ := X.virtualBack hx (y := y) (z := y) hown (mvT hZ w1) (mvT hZ wd) (notFace_of_selects (args := #[]) (mvT hZ ws)) (mvT hZ ws) (mvT hZ w2) hy (backOf (W := W) (C []) hZ w4 w3 hf hl) qa qc (g := mkF m pc Ls (argsL.reverse ++ .ref a :: rest)) rfl hsize (Steps.refl _) (argsL := argsL) (rest := rest) hlen rfl (by show 2 * 0 + _ ≤ _; omega) hd (fun _ _ => ⟨rfl, eT, hc, hs⟩)
  dsimp only [Pt.U, Pt.locs, Pt.cells, Pt.slots] at X1 l1 y1 z1 st hQ
  subst l1 y1 z1
  exact Ends.on st (k v T1 Lc X1 hQ)
/-- nothing is written, nothing made: it returns v -/
def Pure (h0 : Heap) (r : Option Value) (v : Option Value) (h : Heap) (L : List Loc) : Prop := v = r ∧ h = h0 ∧ L = []
/-- the six comparisons, both ways at once -/
theorem Ends.icmp (X : Stand p l e R s m args below meth c T locs cells slots) (hx : p.tables.exec = Jvm.exec) {cd : ClassFile.Cond} {x y : Int32} {o : Int} {pc : Nat} {Ls : Array Slot} {rest : List Value} (hd : decode c.code pc = .ok (.if_icmp cd o, 3)) (pc' : Nat) (ho : 0 ≤ (pc : Int) + o) (hp : ((pc : Int) + o).toNat = pc')
    (kT : if_icmp.holds cd x y = true → Ends p e below P T (mkF m pc' Ls rest)) (kF : if_icmp.holds cd x y = false → Ends p e below P T (mkF m (pc + 3) Ls rest)) : Ends p e below P T (mkF m pc Ls (.int y :: .int x :: rest)) := by
  rcases hb : if_icmp.holds cd x y with _ | _
  · exact Ends.by (fun _ => XS.icmpNo X.here hx rfl hd rfl hb) (kF hb)
  · exact Ends.by (fun _ => XS.icmpYes X.here hx rfl (pc0 := pc) (pc' := pc') rfl hd rfl hb ho hp) (kT hb)
theorem own_wrap {x y : Int} (h : (x - y) % 4294967296 = 0) (r : -2147483648 ≤ x ∧ x < 2147483648) (b : -2147483648 ≤ y ∧ y < 2147483648) : x = y := by omega
theorem own_andor (x a b : Int32) : (x &&& a) ||| (x &&& b) = x &&& (a ||| b) := by
  apply Int32.toBitVec_inj.mp
  rw [Int32.toBitVec_or, Int32.toBitVec_and, Int32.toBitVec_and, Int32.toBitVec_and, Int32.toBitVec_or, ← BitVec.and_or_distrib_left]
theorem own_lt {x y : Int32} : (if_icmp.holds .lt x y = true → x < y) ∧ (if_icmp.holds .lt x y = false → ¬ x < y) := ⟨fun q => Classical.byContradiction fun n => (by rw [(flt n).1] at q; cases q), fun q n => (by rw [(tlt n).1] at q; cases q)⟩
theorem own_ge {x y : Int32} : (if_icmp.holds .ge x y = true → ¬ x < y) ∧ (if_icmp.holds .ge x y = false → x < y) := ⟨fun q n => (by rw [(tlt n).2.1] at q; cases q), fun q => Classical.byContradiction fun n => (by rw [(flt n).2.1] at q; cases q)⟩
theorem own_gt {x y : Int32} : (if_icmp.holds .gt x y = true → y < x) ∧ (if_icmp.holds .gt x y = false → ¬ y < x) := ⟨fun q => Classical.byContradiction fun n => (by rw [(flt n).2.2.1] at q; cases q), fun q n => (by rw [(tlt n).2.2.1] at q; cases q)⟩
theorem own_le {x y : Int32} : (if_icmp.holds .le x y = true → ¬ y < x) ∧ (if_icmp.holds .le x y = false → y < x) := ⟨fun q n => (by rw [(tlt n).2.2.2] at q; cases q), fun q => Classical.byContradiction fun n => (by rw [(flt n).2.2.2] at q; cases q)⟩
theorem own_eq {x y : Int32} : (if_icmp.holds .eq x y = true → x = y) ∧ (if_icmp.holds .eq x y = false → ¬ x = y) := ⟨fun q => Classical.byContradiction fun n => (by rw [(feq n).1] at q; cases q), fun q n => (by rw [(teq n).1] at q; cases q)⟩
theorem own_ne {x y : Int32} : (if_icmp.holds .ne x y = true → ¬ x = y) ∧ (if_icmp.holds .ne x y = false → x = y) := ⟨fun q n => (by rw [(teq n).2] at q; cases q), fun q => Classical.byContradiction fun n => (by rw [(feq n).2] at q; cases q)⟩
theorem Ends.ifc (X : Stand p l e R s m args below meth c T locs cells slots) (hx : p.tables.exec = Jvm.exec) {cd : ClassFile.Cond} {x : Int32} {o : Int} {pc : Nat} {Ls : Array Slot} {rest : List Value} (hd : decode c.code pc = .ok (.ifCond cd o, 3)) (pc' : Nat) (ho : 0 ≤ (pc : Int) + o) (hp : ((pc : Int) + o).toNat = pc')
    (kT : if_icmp.holds cd x 0 = true → Ends p e below P T (mkF m pc' Ls rest)) (kF : if_icmp.holds cd x 0 = false → Ends p e below P T (mkF m (pc + 3) Ls rest)) : Ends p e below P T (mkF m pc Ls (.int x :: rest)) := by
  rcases hb : if_icmp.holds cd x 0 with _ | _
  · exact Ends.by (fun _ => XS.ifNo X.here hx rfl hd rfl ((if0 _ _).trans hb)) (kF hb)
  · exact Ends.by (fun _ => XS.ifYes X.here hx rfl (pc0 := pc) (pc' := pc') rfl hd rfl ((if0 _ _).trans hb) ho hp) (kT hb)
end Own
end Jvm.Pilot.@@N@@
namespace Jvm.Pilot.@@N@@
open Jvm Jvm.ClassFile Sem Op Lib Jvm.Free Jvm.Stand Jvm.LawKit Jvm.RoadKit Bundle Jvm.Pilot.@@N@@.Jvm.D
section Own2
variable {p : Program} {l : Launch} {e : Env} {R : Room} {s : State} {m : MethodId} {args : Array Value} {below : List Frame} {meth : Method} {c : Code} {T T' Z : State} {locs : List Loc} {cells slots : Nat} {P : Outcome → State → Prop} {a0 : Array Value} {h h' h0 : Heap} {a b : Addr} {ty : FieldType} {n k n0 : Nat} {f : Nat → Value} {ws : List Addr}
/-- g with v at the place k -/
def upd {α : Type} (g : Nat → α) (k : Nat) (v : α) : Nat → α := fun i => if i = k then v else g i
theorem upd_hit {α : Type} (g : Nat → α) (k : Nat) (v : α) : upd g k v k = v := if_pos rfl
theorem upd_miss {α : Type} (g : Nat → α) {k i : Nat} (v : α) (q : i ≠ k) : upd g k v i = g i := if_neg q
/-- an array of n elements, the i-th is f i -/
def Af (Z : State) (h : Heap) (a : Addr) (ty : FieldType) (n : Nat) (f : Nat → Value) : Prop :=
  ∃ c : Cell, Arr Z h a c ty ∧ c.slots.size = n ∧ n < 2147483648 ∧ (∀ i, i < n → c.slots[i]? = some (f i)) ∧ ∀ i, i < n → fits ty (f i) = true
theorem Af.lt (F : Af Z h a ty n f) : a < h.size := by obtain ⟨c, A, -⟩ := F; exact A.lt
theorem Af.small (F : Af Z h a ty n f) : n < 2147483648 := by obtain ⟨c, -, -, q, -⟩ := F; exact q
theorem Af.ext (F : Af Z h a ty n f) (E : Ext h h') : Af Z h' a ty n f := by obtain ⟨c, A, r⟩ := F; exact ⟨c, A.ext E, r⟩
theorem Af.keep (F : Af Z h a ty n f) (K : Keep h h' ws) (q : a ∉ ws) : Af Z h' a ty n f := by obtain ⟨c, A, r⟩ := F; exact ⟨c, ⟨K.2.1 a c A.1 q, A.2⟩, r⟩
theorem Af.other {sl : Nat} {v : Value} (F : Af Z h b ty n f) (W : Wr h h' a sl v) (q : b ≠ a) : Af Z h' b ty n f := by obtain ⟨c, A, r⟩ := F; exact ⟨c, A.other W q, r⟩
theorem Af.congr {f' : Nat → Value} (F : Af Z h a ty n f) (q : ∀ i, i < n → f' i = f i) : Af Z h a ty n f' := by
  obtain ⟨c, A, r1, r2, r3, r4⟩ := F; exact ⟨c, A, r1, r2, fun i hi => by rw [q i hi]; exact r3 i hi, fun i hi => by rw [q i hi]; exact r4 i hi⟩
theorem Af.set {v : Value} (F : Af Z h a ty n f) (W : Wr h h' a k v) (hk : k < n) (hv : fits ty v = true) : Af Z h' a ty n (upd f k v) := by
  obtain ⟨c, A, r1, r2, r3, r4⟩ := F
  refine ⟨c.setSlot k v, A.same W, by rw [sz_set]; exact r1, r2, fun i hi => ?_, fun i hi => ?_⟩
  · by_cases q : i = k
    · subst q; rw [upd_hit]; simp [Cell.setSlot, r1, hi]
    · rw [upd_miss _ _ q, ← r3 i hi]; simp [Cell.setSlot, Array.getElem?_setIfInBounds, Ne.symm q]
  · by_cases q : i = k
    · subst q; rw [upd_hit]; exact hv
    · rw [upd_miss _ _ q]; exact r4 i hi
theorem Af.new {k : ClassId} {z : Int32} (A : Arr Z h a (newA k ty z) ty) (q : z.toInt = (n : Int)) (hd : fits ty (defaultValue ty) = true) : Af Z h a ty n (fun _ => defaultValue ty) := by
  have e : z.toNatClampNeg = n := by show z.toInt.toNat = n; omega
  have r := z.toInt_lt
  refine ⟨_, A, by rw [sz_new, e], by omega, fun i hi => ?_, fun i _ => hd⟩
  simp [newA, e, hi]
theorem own_idx {j : Int32} (q : j.toInt = (k : Int)) : j.toNatClampNeg = k ∧ ¬ j < 0 := by
  refine ⟨by show j.toInt.toNat = k; omega, ?_⟩
  rw [Int32.lt_iff_toInt_lt]; have : (0 : Int32).toInt = 0 := rfl; omega
theorem own_inb {j : Int32} {c : Cell} (S : c.slots.size = n) (q : j.toInt = (k : Int)) (hk : k < n) : ¬ (j < 0 ∨ c.slots.size ≤ j.toNatClampNeg) := by
  obtain ⟨q1, q2⟩ := own_idx q
  rw [S, q1]; intro o; rcases o with o | o
  · exact q2 o
  · omega
/-- the array's length -/
theorem Ends.len (X : Stand p l e R s m args below meth c T locs cells slots) (hx : p.tables.exec = Jvm.exec) (hZ : Z.Warmed39 s.vm) (eT : T.heap = h) (F : Af Z h a ty n f) {z : Int32} (hz : z.toInt = (n : Int)) {pc : Nat} {Ls : Array Slot} {rest : List Value} (hd : decode c.code pc = .ok (.arraylength, 1))
    (kk : Ends p e below P T (mkF m (pc + 1) Ls (.int z :: rest))) : Ends p e below P T (mkF m pc Ls (.ref a :: rest)) := by
  obtain ⟨cl, A, r1, r2, -⟩ := F
  refine Ends.by (fun t => X.arraylength hx (by rw [eT]; exact A.1) (State.isArrayOf_alike hZ.alike A.2.1) (g := mkF m pc Ls (.ref a :: rest)) rfl rfl hd t) ?_
  have q : cl.slots.size.toInt32 = z := by
    apply Int32.toInt_inj.mp; rw [r1, hz]; exact Int32.toInt_ofNat_of_lt (by omega)
  rw [q]; exact kk
theorem Ends.ldB (X : Stand p l e R s m args below meth c T locs cells slots) (hx : p.tables.exec = Jvm.exec) (hZ : Z.Warmed39 s.vm) (eT : T.heap = h) (F : Af Z h a .byte n f) {j : Int32} (hj : j.toInt = (k : Int)) (hk : k < n) {v : Value} (hv : f k = v) {pc : Nat} {Ls : Array Slot} {rest : List Value} (hd : decode c.code pc = .ok (.baload, 1))
    (kk : Ends p e below P T (mkF m (pc + 1) Ls (v :: rest))) : Ends p e below P T (mkF m pc Ls (.int j :: .ref a :: rest)) := by
  obtain ⟨cl, A, r1, r2, r3, -⟩ := F
  exact Ends.by (fun t => X.baloadBytes hx (j := j) (v := v) (by rw [eT]; exact A.1) (State.isArrayOf_alike hZ.alike A.2.1) A.2.2 (own_inb r1 hj hk) (by rw [(own_idx hj).1, ← hv]; exact r3 k hk) (g := mkF m pc Ls (.int j :: .ref a :: rest)) rfl rfl hd t) kk
theorem Ends.ldI (X : Stand p l e R s m args below meth c T locs cells slots) (hx : p.tables.exec = Jvm.exec) (hZ : Z.Warmed39 s.vm) (eT : T.heap = h) (F : Af Z h a .int n f) {j : Int32} (hj : j.toInt = (k : Int)) (hk : k < n) {v : Value} (hv : f k = v) {pc : Nat} {Ls : Array Slot} {rest : List Value} (hd : decode c.code pc = .ok (.iaload, 1))
    (kk : Ends p e below P T (mkF m (pc + 1) Ls (v :: rest))) : Ends p e below P T (mkF m pc Ls (.int j :: .ref a :: rest)) := by
  obtain ⟨cl, A, r1, r2, r3, -⟩ := F
  exact Ends.by (fun t => X.iaload hx (j := j) (v := v) (by rw [eT]; exact A.1) (State.isArrayOf_alike hZ.alike A.2.1) A.2.2 (own_inb r1 hj hk) (by rw [(own_idx hj).1, ← hv]; exact r3 k hk) (g := mkF m pc Ls (.int j :: .ref a :: rest)) rfl rfl hd t) kk
theorem Ends.ldJ (X : Stand p l e R s m args below meth c T locs cells slots) (hx : p.tables.exec = Jvm.exec) (hZ : Z.Warmed39 s.vm) (eT : T.heap = h) (F : Af Z h a .long n f) {j : Int32} (hj : j.toInt = (k : Int)) (hk : k < n) {v : Value} (hv : f k = v) {pc : Nat} {Ls : Array Slot} {rest : List Value} (hd : decode c.code pc = .ok (.laload, 1))
    (kk : Ends p e below P T (mkF m (pc + 1) Ls (v :: rest))) : Ends p e below P T (mkF m pc Ls (.int j :: .ref a :: rest)) := by
  obtain ⟨cl, A, r1, r2, r3, -⟩ := F
  exact Ends.by (fun t => X.laload hx (j := j) (v := v) (by rw [eT]; exact A.1) (State.isArrayOf_alike hZ.alike A.2.1) A.2.2 (own_inb r1 hj hk) (by rw [(own_idx hj).1, ← hv]; exact r3 k hk) (g := mkF m pc Ls (.int j :: .ref a :: rest)) rfl rfl hd t) kk
theorem own_snoc {sl : Nat} (N : Fr n0 locs) (q : n0 ≤ a) : Fr n0 (locs ++ [⟨a, sl⟩]) := N.app fun y hy => by cases List.mem_singleton.mp hy; exact q
theorem Ends.stB (X : Stand p l e R s m args below meth c T locs cells slots) (hx : p.tables.exec = Jvm.exec) (hZ : Z.Warmed39 s.vm) (eT : T.heap = h) (N : Fr n0 locs) (ge : n0 ≤ a) (F : Af Z h a .byte n f) {j x : Int32} (hj : j.toInt = (k : Int)) (hk : k < n) {pc : Nat} {Ls : Array Slot} {rest : List Value} (hd : decode c.code pc = .ok (.bastore, 1))
    (kk : ∀ T' h' L', Stand p l e R s m args below meth c T' L' cells slots → T'.heap = h' → Fr n0 L' → Wr h h' a k (.int x.toInt8.toInt32) → Af Z h' a .byte n (upd f k (.int x.toInt8.toInt32)) → Ends p e below P T' (mkF m (pc + 1) Ls rest)) : Ends p e below P T (mkF m pc Ls (.int x :: .int j :: .ref a :: rest)) := by
  obtain ⟨cl, A, r1, r2, r3, r4⟩ := F
  obtain ⟨T1, h1, X1, e1, W1, st⟩ := Jvm.RoadKit.stB X hx hZ eT A (j := j) (x := x) (own_inb r1 hj hk) (g := mkF m pc Ls (.int x :: .int j :: .ref a :: rest)) rfl rfl hd
  rw [(own_idx hj).1] at W1
  have W2 : Wr h h1 a k (.int x.toInt8.toInt32) := W1
  exact Ends.by st (kk T1 h1 _ X1 e1 (own_snoc N ge) W2 (Af.set ⟨cl, A, r1, r2, r3, r4⟩ W2 hk (fits_nar_byte x)))
theorem Ends.stI (X : Stand p l e R s m args below meth c T locs cells slots) (hx : p.tables.exec = Jvm.exec) (hZ : Z.Warmed39 s.vm) (eT : T.heap = h) (N : Fr n0 locs) (ge : n0 ≤ a) (F : Af Z h a .int n f) {j x : Int32} (hj : j.toInt = (k : Int)) (hk : k < n) {pc : Nat} {Ls : Array Slot} {rest : List Value} (hd : decode c.code pc = .ok (.iastore, 1))
    (kk : ∀ T' h' L', Stand p l e R s m args below meth c T' L' cells slots → T'.heap = h' → Fr n0 L' → Wr h h' a k (.int x) → Af Z h' a .int n (upd f k (.int x)) → Ends p e below P T' (mkF m (pc + 1) Ls rest)) : Ends p e below P T (mkF m pc Ls (.int x :: .int j :: .ref a :: rest)) := by
  obtain ⟨cl, A, r1, r2, r3, r4⟩ := F
  obtain ⟨T1, h1, X1, e1, W1, st⟩ := Jvm.RoadKit.stI X hx hZ eT A (j := j) (x := x) (own_inb r1 hj hk) (g := mkF m pc Ls (.int x :: .int j :: .ref a :: rest)) rfl rfl hd
  rw [(own_idx hj).1] at W1
  exact Ends.by st (kk T1 h1 _ X1 e1 (own_snoc N ge) W1 (Af.set ⟨cl, A, r1, r2, r3, r4⟩ W1 hk rfl))
theorem Ends.stJ (X : Stand p l e R s m args below meth c T locs cells slots) (hx : p.tables.exec = Jvm.exec) (hZ : Z.Warmed39 s.vm) (eT : T.heap = h) (N : Fr n0 locs) (ge : n0 ≤ a) (F : Af Z h a .long n f) {j : Int32} {x : Int64} (hj : j.toInt = (k : Int)) (hk : k < n) {pc : Nat} {Ls : Array Slot} {rest : List Value} (hd : decode c.code pc = .ok (.lastore, 1))
    (kk : ∀ T' h' L', Stand p l e R s m args below meth c T' L' cells slots → T'.heap = h' → Fr n0 L' → Wr h h' a k (.long x) → Af Z h' a .long n (upd f k (.long x)) → Ends p e below P T' (mkF m (pc + 1) Ls rest)) : Ends p e below P T (mkF m pc Ls (.long x :: .int j :: .ref a :: rest)) := by
  obtain ⟨cl, A, r1, r2, r3, r4⟩ := F
  obtain ⟨T1, h1, X1, e1, W1, st⟩ := Jvm.RoadKit.stJ X hx hZ eT A (j := j) (x := x) (own_inb r1 hj hk) (g := mkF m pc Ls (.long x :: .int j :: .ref a :: rest)) rfl rfl hd
  rw [(own_idx hj).1] at W1
  exact Ends.by st (kk T1 h1 _ X1 e1 (own_snoc N ge) W1 (Af.set ⟨cl, A, r1, r2, r3, r4⟩ W1 hk rfl))
/-- a new array of bytes, ints, longs .. -/
theorem Ends.newA (X : Stand p l e R s m args below meth c T locs cells slots) (hx : p.tables.exec = Jvm.exec) (hZ : Z.Warmed39 s.vm) {aty : ArrayType} (w : (Jvm.Cond.arrayClass (newarray.typeOf aty)).before a0 Z = true) (eT : T.heap = h) {z : Int32} (hz : z.toInt = (n : Int)) (cap : Nat) (hcap : n ≤ cap) (hb : cap * 8 ≤ 536870912) (hc : cells + 1 ≤ R.cells) (hl : slots + cap ≤ R.slots) (hdf : fits (newarray.typeOf aty) (defaultValue (newarray.typeOf aty)) = true)
    {ad : String} (had : "[" ++ (newarray.typeOf aty).toString = ad) {pc : Nat} {Ls : Array Slot} {rest : List Value} (hd : decode c.code pc = .ok (.newarray aty, 2))
    (kk : ∀ T' h', Stand p l e R s m args below meth c T' locs (cells + 1) (slots + cap) → T'.heap = h' → Ext h h' → Af Z h' h.size (newarray.typeOf aty) n (fun _ => defaultValue (newarray.typeOf aty)) → Exa Z h' h.size ad → Ends p e below P T' (mkF m (pc + 2) Ls (.ref h.size :: rest))) : Ends p e below P T (mkF m pc Ls (.int z :: rest)) := by
  obtain ⟨q1, q2⟩ := own_idx hz
  obtain ⟨T1, h1, cA, X1, e1, E1, A1, Ex1, st⟩ := newPE X hx hZ w eT (g := mkF m pc Ls (.int z :: rest)) rfl hd rfl q2 (cap := cap) (by rw [q1]; exact hcap) hb hc hl had
  exact Ends.by st (kk T1 h1 X1 e1 E1 (Af.new A1 hz hdf) Ex1)
theorem own_updL (g : Nat → Int64) (k : Nat) (x : Int64) (q : Nat) : Value.long (upd g k x q) = upd (fun q => Value.long (g q)) k (.long x) q := by
  unfold upd; split <;> rfl
theorem own_updI (g : Nat → Int32) (k : Nat) (x : Int32) (q : Nat) : Value.int (upd g k x q) = upd (fun q => Value.int (g q)) k (.int x) q := by
  unfold upd; split <;> rfl
/-- an array's clone -/
theorem Ends.clone (X : Stand p l e R s m args below meth c T locs cells slots) (hx : p.tables.exec = Jvm.exec) (hZ : Z.Warmed39 s.vm) {own ad : String} {index : Nat} (hown : s.vm.findClass own = some m.cls)
    (w1 : (Jvm.Cond.methodLink own index ⟨ad, "clone", "()Ljava/lang/Object;"⟩).before a0 Z = true) (w2 : (Jvm.Cond.sameMethod ad "java/lang/Object" "clone" "()Ljava/lang/Object;").before a0 Z = true) (w3 : (Jvm.Cond.native ⟨"java/lang/Object", "clone", "()Ljava/lang/Object;"⟩).before a0 Z = true)
    (w4 : (Jvm.Cond.instanceMethod ⟨"java/lang/Object", "clone", "()Ljava/lang/Object;"⟩).before a0 Z = true) (w5 : (Jvm.Cond.selects ad ⟨ad, "clone", "()Ljava/lang/Object;"⟩ ⟨"java/lang/Object", "clone", "()Ljava/lang/Object;"⟩).before a0 Z = true) (w6 : (Jvm.Cond.castable ad "java/lang/Cloneable").before a0 Z = true)
    (eT : T.heap = h) (F : Af Z h a ty n f) (E : Exa Z h a ad) (W : Nat) {rest : List Value} (hW : (rest.map fun v => v.category).sum ≤ W) {pc : Nat} {Ls : Array Slot} (hsize : Ls.size = c.maxLocals) (hd : decode c.code pc = .ok (.invokevirtual index, 3))
    (hf : 1 ≤ R.frames) (hl : W + 14 ≤ R.locals) (hty : refKind ty = false) (cap : Nat) (hcap : n ≤ cap) (hc : cells + 1 ≤ R.cells) (hsl : slots + cap ≤ R.slots)
    (kk : ∀ T' h', Stand p l e R s m args below meth c T' locs (cells + 1) (slots + cap) → T'.heap = h' → Ext h h' → Af Z h' h.size ty n f → Exa Z h' h.size ad → Ends p e below P T' (mkF m (pc + 3) Ls (.ref h.size :: rest))) : Ends p e below P T (mkF m pc Ls (.ref a :: rest)) := by
  obtain ⟨cl, A, r1, r2, r3, r4⟩ := F
  have FC : FitC Z cl := fitC_of A fun i hi v hv => by rw [r3 i (r1 ▸ hi)] at hv; cases hv; exact r4 i (r1 ▸ hi)
  obtain ⟨T1, h1, X1, e1, E1, A1, Ex1, st⟩ := cloneA X hx hZ hown w1 w2 w3 w4 w5 w6 eT A E FC (g := mkF m pc Ls (.ref a :: rest)) rfl hsize rfl hd hf (W := W) (by show 2 * 0 + _ ≤ _; omega) hl (cap := cap) (by rw [r1]; exact hcap) hc hsl
  exact Ends.by st (kk T1 h1 X1 e1 E1 ⟨_, A1, r1, r2, r3, r4⟩ Ex1)
theorem own_apart {C : String} (F : Exa Z h a C) (G : Af Z h b ty n f) {kk : Nat} (wi : (Jvm.Cond.instantiable C kk).before a0 Z = true) : a ≠ b := by
  obtain ⟨cl, A, -⟩ := G; exact ne_arr F wi A
end Own2
end Jvm.Pilot.@@N@@
namespace Jvm.Pilot.@@N@@
open Jvm Jvm.ClassFile Sem Op Lib Jvm.Free Jvm.Stand Jvm.LawKit Jvm.RoadKit Bundle Jvm.Pilot.@@N@@.Jvm.D
theorem d2_0 : decode prog_13_method_2_code 0 = .ok (.aload_n 0, 1) := by decide +kernel
theorem d2_1 : decode prog_13_method_2_code 1 = .ok (.invokespecial 7, 3) := by decide +kernel
theorem d2_4 : decode prog_13_method_2_code 4 = .ok (.aload_n 0, 1) := by decide +kernel
theorem d2_5 : decode prog_13_method_2_code 5 = .ok (.aload_n 1, 1) := by decide +kernel
theorem d2_6 : decode prog_13_method_2_code 6 = .ok (.putfield 12, 3) := by decide +kernel
theorem d2_9 : decode prog_13_method_2_code 9 = .ok (.aload_n 0, 1) := by decide +kernel
theorem d2_10 : decode prog_13_method_2_code 10 = .ok (.iload_n 2, 1) := by decide +kernel
theorem d2_11 : decode prog_13_method_2_code 11 = .ok (.putfield 16, 3) := by decide +kernel
theorem d2_14 : decode prog_13_method_2_code 14 = .ok (.aload_n 0, 1) := by decide +kernel
theorem d2_15 : decode prog_13_method_2_code 15 = .ok (.iload_n 3, 1) := by decide +kernel
theorem d2_16 : decode prog_13_method_2_code 16 = .ok (.putfield 20, 3) := by decide +kernel
theorem d2_19 : decode prog_13_method_2_code 19 = .ok (.return_, 1) := by decide +kernel
theorem pd_2 : parseMethodDescriptor "([BII)V" = some ⟨[(.array .byte), .int, .int], none⟩ := by decide +kernel
theorem pf_2 : plainFor (⟨"com/example/middle_shelf/middleshelf/config/Der", "<init>", "([BII)V"⟩ : MethodName) = true := plainFor_of_name (by first | (simp [plainName, overriddenIn, x]; done) | decide +kernel)
theorem ef_2 (m : MethodId) (a : Addr) (ar : Addr) (at1 : Int32) (en1 : Int32) : entryFrame m #[(.ref a), (.ref ar), (.int at1), (.int en1)] 4 = mkF m 0 #[.val (.ref a), .val (.ref ar), .val (.int at1), .val (.int en1)] [] := by first | (simp [entryFrame, mkF, argsToLocals, Value.category]; done) | rfl
set_option maxRecDepth 65536 in
set_option maxHeartbeats 40000000 in
theorem con_2 (l : Launch) (Z : State) (a0 : Array Value) (hw : ∀ d ∈ tables_1, d.before a0 Z = true) (a : Addr) (ar : Addr) (at1 : Int32) (en1 : Int32)  (h0 : Heap) (n0 : Nat) (Z0 : n0 ≤ h0.size) (E0 : Exa Z h0 a "com/example/middle_shelf/middleshelf/config/Der") (F1 : Fld Z h0 a "com/example/middle_shelf/middleshelf/config/Der" "bytes" "[B" .null) (F2 : Fld Z h0 a "com/example/middle_shelf/middleshelf/config/Der" "at" "I" (.int (0 : Int32))) (F3 : Fld Z h0 a "com/example/middle_shelf/middleshelf/config/Der" "end" "I" (.int (0 : Int32))) (ga : n0 ≤ a) : Con l Z (⟨"com/example/middle_shelf/middleshelf/config/Der", "<init>", "([BII)V"⟩ : MethodName) prog_13_method_2_code 4 none ({ frames := 1, cells := 0, slots := 0, locals := 12 } : Room) #[(.ref a), (.ref ar), (.int at1), (.int en1)] h0 (fun v h L => v = none ∧ Fr n0 L ∧ Keep h0 h [a] ∧ Exa Z h a "com/example/middle_shelf/middleshelf/config/Der" ∧ Fld Z h a "com/example/middle_shelf/middleshelf/config/Der" "bytes" "[B" (.ref ar) ∧ Fld Z h a "com/example/middle_shelf/middleshelf/config/Der" "at" "I" (.int at1) ∧ Fld Z h a "com/example/middle_shelf/middleshelf/config/Der" "end" "I" (.int en1)) := by
  refine Con.intro pf_2 ?_
  intro p e s m below meth c s₁ hx hby hml hown hnm hret hlk hZ X0 e0
  refine Ends.cast (ef_2 m a ar at1 en1) ?_
  have N0 := Fr.nil n0
  have K0 : Keep h0 h0 [a] := Keep.refl _ _
  refine Ends.by (fun _ => XS.aloadN X0.here hx rfl (hb hby d2_0) rfl rfl) ?_
  show Ends p e below _ s₁ (mkF m 1 #[.val (.ref a), .val (.ref ar), .val (.int at1), .val (.int en1)] [(.ref a)])
  obtain ⟨T1, X1, e1, st1⟩ := initO X0 hx hZ hown (hw _ (List.mem_of_getElem? (i := 10) rfl)) (hw _ (List.mem_of_getElem? (i := 11) rfl)) (hw _ (List.mem_of_getElem? (i := 12) rfl)) e0 (g := (mkF m 1 #[.val (.ref a), .val (.ref ar), .val (.int at1), .val (.int en1)] [(.ref a)])) rfl (by rw [hml]; rfl) rfl (hb hby d2_1) (by decide) (W := 0) (by show 2 * 0 + _ ≤ _; exact Nat.le_of_eq rfl) (by decide)
  refine Ends.by st1 ?_
  show Ends p e below _ T1 (mkF m 4 #[.val (.ref a), .val (.ref ar), .val (.int at1), .val (.int en1)] [])
  refine Ends.by (fun _ => XS.aloadN X1.here hx rfl (hb hby d2_4) rfl rfl) ?_
  show Ends p e below _ T1 (mkF m 5 #[.val (.ref a), .val (.ref ar), .val (.int at1), .val (.int en1)] [(.ref a)])
  refine Ends.by (fun _ => XS.aloadN X1.here hx rfl (hb hby d2_5) rfl rfl) ?_
  show Ends p e below _ T1 (mkF m 6 #[.val (.ref a), .val (.ref ar), .val (.int at1), .val (.int en1)] [(.ref ar), (.ref a)])
  obtain ⟨T2, h2, X2, e2, W2, st2⟩ := putF X1 hx hZ hown (host := "") (Or.inl (hw _ (List.mem_of_getElem? (i := 13) rfl))) Via.refl e1 F1 E0 (Or.inr ⟨(hw _ (List.mem_of_getElem? (i := 14) rfl)), rfl, hnm⟩) (hw _ (List.mem_of_getElem? (i := 2) rfl)) (ty := (.array .byte)) (by decide) rfl rfl (g := (mkF m 6 #[.val (.ref a), .val (.ref ar), .val (.int at1), .val (.int en1)] [(.ref ar), (.ref a)])) rfl rfl (hb hby d2_6)
  refine Ends.by st2 ?_
  have F_a_bytes_2 : Fld Z h2 a "com/example/middle_shelf/middleshelf/config/Der" "bytes" "[B" (.ref ar) := F1.same W2
  have N2 := Fr.snoc X2 N0 ga
  have E_a_2 : Exa Z h2 a "com/example/middle_shelf/middleshelf/config/Der" := E0.wr W2
  have F_a_at_2 : Fld Z h2 a "com/example/middle_shelf/middleshelf/config/Der" "at" "I" (.int (0 : Int32)) := F2.other W2 (Or.inr (slot_ne (Or.inl (hw _ (List.mem_of_getElem? (i := 16) rfl))) (Or.inr (hw _ (List.mem_of_getElem? (i := 14) rfl))) (by decide) (t := .int) (t' := (.array .byte)) (by decide) (by decide)))
  have F_a_end_2 : Fld Z h2 a "com/example/middle_shelf/middleshelf/config/Der" "end" "I" (.int (0 : Int32)) := F3.other W2 (Or.inr (slot_ne (Or.inr (hw _ (List.mem_of_getElem? (i := 18) rfl))) (Or.inr (hw _ (List.mem_of_getElem? (i := 14) rfl))) (by decide) (t := .int) (t' := (.array .byte)) (by decide) (by decide)))
  have Z2 : n0 ≤ h2.size := Nat.le_trans Z0 (Nat.le_of_eq W2.size.symm)
  have K2 : Keep h0 h2 [a] := K0.wr W2 (Or.inl (List.mem_of_getElem? (i := 0) rfl))
  show Ends p e below _ T2 (mkF m 9 #[.val (.ref a), .val (.ref ar), .val (.int at1), .val (.int en1)] [])
  refine Ends.by (fun _ => XS.aloadN X2.here hx rfl (hb hby d2_9) rfl rfl) ?_
  show Ends p e below _ T2 (mkF m 10 #[.val (.ref a), .val (.ref ar), .val (.int at1), .val (.int en1)] [(.ref a)])
  refine Ends.by (fun _ => XS.iloadN X2.here hx rfl (hb hby d2_10) rfl) ?_
  show Ends p e below _ T2 (mkF m 11 #[.val (.ref a), .val (.ref ar), .val (.int at1), .val (.int en1)] [(.int at1), (.ref a)])
  obtain ⟨T3, h3, X3, e3, W3, st3⟩ := putF X2 hx hZ hown (host := "") (Or.inl (hw _ (List.mem_of_getElem? (i := 15) rfl))) Via.refl e2 F_a_at_2 E_a_2 (Or.inl (hw _ (List.mem_of_getElem? (i := 16) rfl))) (hw _ (List.mem_of_getElem? (i := 2) rfl)) (ty := .int) (by decide) rfl rfl (g := (mkF m 11 #[.val (.ref a), .val (.ref ar), .val (.int at1), .val (.int en1)] [(.int at1), (.ref a)])) rfl rfl (hb hby d2_11)
  refine Ends.by st3 ?_
  have F_a_at_3 : Fld Z h3 a "com/example/middle_shelf/middleshelf/config/Der" "at" "I" (.int at1) := F_a_at_2.same W3
  have N3 := Fr.snoc X3 N2 ga
  have E_a_3 : Exa Z h3 a "com/example/middle_shelf/middleshelf/config/Der" := E_a_2.wr W3
  have F_a_end_3 : Fld Z h3 a "com/example/middle_shelf/middleshelf/config/Der" "end" "I" (.int (0 : Int32)) := F_a_end_2.other W3 (Or.inr (slot_ne (Or.inr (hw _ (List.mem_of_getElem? (i := 18) rfl))) (Or.inl (hw _ (List.mem_of_getElem? (i := 16) rfl))) (by decide) (t := .int) (t' := .int) (by decide) (by decide)))
  have F_a_bytes_3 : Fld Z h3 a "com/example/middle_shelf/middleshelf/config/Der" "bytes" "[B" (.ref ar) := F_a_bytes_2.other W3 (Or.inr (slot_ne (Or.inr (hw _ (List.mem_of_getElem? (i := 14) rfl))) (Or.inl (hw _ (List.mem_of_getElem? (i := 16) rfl))) (by decide) (t := (.array .byte)) (t' := .int) (by decide) (by decide)))
  have Z3 : n0 ≤ h3.size := Nat.le_trans Z2 (Nat.le_of_eq W3.size.symm)
  have K3 : Keep h0 h3 [a] := K2.wr W3 (Or.inl (List.mem_of_getElem? (i := 0) rfl))
  show Ends p e below _ T3 (mkF m 14 #[.val (.ref a), .val (.ref ar), .val (.int at1), .val (.int en1)] [])
  refine Ends.by (fun _ => XS.aloadN X3.here hx rfl (hb hby d2_14) rfl rfl) ?_
  show Ends p e below _ T3 (mkF m 15 #[.val (.ref a), .val (.ref ar), .val (.int at1), .val (.int en1)] [(.ref a)])
  refine Ends.by (fun _ => XS.iloadN X3.here hx rfl (hb hby d2_15) rfl) ?_
  show Ends p e below _ T3 (mkF m 16 #[.val (.ref a), .val (.ref ar), .val (.int at1), .val (.int en1)] [(.int en1), (.ref a)])
  obtain ⟨T4, h4, X4, e4, W4, st4⟩ := putF X3 hx hZ hown (host := "") (Or.inl (hw _ (List.mem_of_getElem? (i := 17) rfl))) Via.refl e3 F_a_end_3 E_a_3 (Or.inr ⟨(hw _ (List.mem_of_getElem? (i := 18) rfl)), rfl, hnm⟩) (hw _ (List.mem_of_getElem? (i := 2) rfl)) (ty := .int) (by decide) rfl rfl (g := (mkF m 16 #[.val (.ref a), .val (.ref ar), .val (.int at1), .val (.int en1)] [(.int en1), (.ref a)])) rfl rfl (hb hby d2_16)
  refine Ends.by st4 ?_
  have F_a_end_4 : Fld Z h4 a "com/example/middle_shelf/middleshelf/config/Der" "end" "I" (.int en1) := F_a_end_3.same W4
  have N4 := Fr.snoc X4 N3 ga
  have E_a_4 : Exa Z h4 a "com/example/middle_shelf/middleshelf/config/Der" := E_a_3.wr W4
  have F_a_bytes_4 : Fld Z h4 a "com/example/middle_shelf/middleshelf/config/Der" "bytes" "[B" (.ref ar) := F_a_bytes_3.other W4 (Or.inr (slot_ne (Or.inr (hw _ (List.mem_of_getElem? (i := 14) rfl))) (Or.inr (hw _ (List.mem_of_getElem? (i := 18) rfl))) (by decide) (t := (.array .byte)) (t' := .int) (by decide) (by decide)))
  have F_a_at_4 : Fld Z h4 a "com/example/middle_shelf/middleshelf/config/Der" "at" "I" (.int at1) := F_a_at_3.other W4 (Or.inr (slot_ne (Or.inl (hw _ (List.mem_of_getElem? (i := 16) rfl))) (Or.inr (hw _ (List.mem_of_getElem? (i := 18) rfl))) (by decide) (t := .int) (t' := .int) (by decide) (by decide)))
  have Z4 : n0 ≤ h4.size := Nat.le_trans Z3 (Nat.le_of_eq W4.size.symm)
  have K4 : Keep h0 h4 [a] := K3.wr W4 (Or.inl (List.mem_of_getElem? (i := 0) rfl))
  show Ends p e below _ T4 (mkF m 19 #[.val (.ref a), .val (.ref ar), .val (.int at1), .val (.int en1)] [])
  exact Ends.retV X4 hx hlk hret (hb hby d2_19) (by decide) (by decide) (by rw [e4]; exact ⟨rfl, N4, K4, E_a_4, F_a_bytes_4, F_a_at_4, F_a_end_4⟩)
theorem d1_0 : decode prog_13_method_1_code 0 = .ok (.aload_n 0, 1) := by decide +kernel
theorem d1_1 : decode prog_13_method_1_code 1 = .ok (.aload_n 1, 1) := by decide +kernel
theorem d1_2 : decode prog_13_method_1_code 2 = .ok (.iconst 0, 1) := by decide +kernel
theorem d1_3 : decode prog_13_method_1_code 3 = .ok (.aload_n 1, 1) := by decide +kernel
theorem d1_4 : decode prog_13_method_1_code 4 = .ok (.arraylength, 1) := by decide +kernel
theorem d1_5 : decode prog_13_method_1_code 5 = .ok (.invokespecial 1, 3) := by decide +kernel
theorem d1_8 : decode prog_13_method_1_code 8 = .ok (.return_, 1) := by decide +kernel
theorem pd_1 : parseMethodDescriptor "([B)V" = some ⟨[(.array .byte)], none⟩ := by decide +kernel
theorem pf_1 : plainFor (⟨"com/example/middle_shelf/middleshelf/config/Der", "<init>", "([B)V"⟩ : MethodName) = true := plainFor_of_name (by first | (simp [plainName, overriddenIn, x]; done) | decide +kernel)
theorem ef_1 (m : MethodId) (a : Addr) (ar : Addr) : entryFrame m #[(.ref a), (.ref ar)] 2 = mkF m 0 #[.val (.ref a), .val (.ref ar)] [] := by first | (simp [entryFrame, mkF, argsToLocals, Value.category]; done) | rfl
set_option maxRecDepth 65536 in
set_option maxHeartbeats 40000000 in
theorem con_1 (l : Launch) (Z : State) (a0 : Array Value) (hw : ∀ d ∈ tables_1, d.before a0 Z = true) (a : Addr) (ar : Addr) (k : Nat) (z : Int32) (f : Nat → Value) (h0 : Heap) (n0 : Nat) (Z0 : n0 ≤ h0.size) (E0 : Exa Z h0 a "com/example/middle_shelf/middleshelf/config/Der") (F1 : Fld Z h0 a "com/example/middle_shelf/middleshelf/config/Der" "bytes" "[B" .null) (F2 : Fld Z h0 a "com/example/middle_shelf/middleshelf/config/Der" "at" "I" (.int (0 : Int32))) (F3 : Fld Z h0 a "com/example/middle_shelf/middleshelf/config/Der" "end" "I" (.int (0 : Int32))) (ga : n0 ≤ a) (A0 : Af Z h0 ar .byte k f) (hz : z.toInt = (k : Int)) : Con l Z (⟨"com/example/middle_shelf/middleshelf/config/Der", "<init>", "([B)V"⟩ : MethodName) prog_13_method_1_code 2 none ({ frames := 2, cells := 0, slots := 0, locals := 27 } : Room) #[(.ref a), (.ref ar)] h0 (fun v h L => v = none ∧ Fr n0 L ∧ Keep h0 h [a] ∧ Exa Z h a "com/example/middle_shelf/middleshelf/config/Der" ∧ Fld Z h a "com/example/middle_shelf/middleshelf/config/Der" "bytes" "[B" (.ref ar) ∧ Fld Z h a "com/example/middle_shelf/middleshelf/config/Der" "at" "I" (.int (0 : Int32)) ∧ Fld Z h a "com/example/middle_shelf/middleshelf/config/Der" "end" "I" (.int z)) := by
  refine Con.intro pf_1 ?_
  intro p e s m below meth c s₁ hx hby hml hown hnm hret hlk hZ X0 e0
  refine Ends.cast (ef_1 m a ar) ?_
  have N0 := Fr.nil n0
  have K0 : Keep h0 h0 [a] := Keep.refl _ _
  refine Ends.by (fun _ => XS.aloadN X0.here hx rfl (hb hby d1_0) rfl rfl) ?_
  show Ends p e below _ s₁ (mkF m 1 #[.val (.ref a), .val (.ref ar)] [(.ref a)])
  refine Ends.by (fun _ => XS.aloadN X0.here hx rfl (hb hby d1_1) rfl rfl) ?_
  show Ends p e below _ s₁ (mkF m 2 #[.val (.ref a), .val (.ref ar)] [(.ref ar), (.ref a)])
  refine Ends.by (fun _ => XS.iconst X0.here hx rfl (hb hby d1_2)) ?_
  show Ends p e below _ s₁ (mkF m 3 #[.val (.ref a), .val (.ref ar)] [(.int (0 : Int32)), (.ref ar), (.ref a)])
  refine Ends.by (fun _ => XS.aloadN X0.here hx rfl (hb hby d1_3) rfl rfl) ?_
  show Ends p e below _ s₁ (mkF m 4 #[.val (.ref a), .val (.ref ar)] [(.ref ar), (.int (0 : Int32)), (.ref ar), (.ref a)])
  refine Ends.len X0 hx hZ e0 A0 (z := z) hz (hb hby d1_4) ?_
  show Ends p e below _ s₁ (mkF m 5 #[.val (.ref a), .val (.ref ar)] [(.int z), (.int (0 : Int32)), (.ref ar), (.ref a)])
  refine Ends.callI (a := a) (argsL := [(.ref ar), (.int (0 : Int32)), (.int z)]) (rest := []) X0 hx hZ rfl hown (hw _ (List.mem_of_getElem? (i := 7) rfl)) (hw _ (List.mem_of_getElem? (i := 8) rfl)) (hw _ (List.mem_of_getElem? (i := 3) rfl)) (hw _ (List.mem_of_getElem? (i := 9) rfl)) (by decide) (con_2 l Z a0 hw a ar (0 : Int32) z h0 n0 Z0 E0 F1 F2 F3 ga) e0 (by rw [hml]; rfl) (hb hby d1_5) (lenOf pd_2 rfl) 0 (Nat.le_of_eq rfl) (by decide) (by decide) (by decide) (by decide) ?_
  intro v T1 L1 X1 hQ
  obtain ⟨rfl, N1q, K1q, E1q, F1q, G1q, H1q⟩ := hQ
  have N1 := Fr.app N0 N1q
  have E_a_1 : Exa Z T1.heap a "com/example/middle_shelf/middleshelf/config/Der" := E0.keep K1q
  have A_ar_1 : Af Z T1.heap ar .byte k f := A0.keep K1q (ninS (Ne.symm (own_apart E0 A0 (hw _ (List.mem_of_getElem? (i := 2) rfl)))) nin0)
  have Z1 : n0 ≤ T1.heap.size := Nat.le_trans Z0 K1q.1
  have K1 : Keep h0 T1.heap [a] := K0.trans K1q (allS (P := fun q => q ∈ [a] ∨ h0.size ≤ q) (Or.inl (List.mem_of_getElem? (i := 0) rfl)) all0)
  show Ends p e below _ T1 (mkF m 8 #[.val (.ref a), .val (.ref ar)] [])
  exact Ends.retV X1 hx hlk hret (hb hby d1_8) (by decide) (by decide) (⟨rfl, N1, K1, E1q, F1q, G1q, H1q⟩)
theorem d4_0 : decode prog_13_method_3_code 0 = .ok (.aload_n 0, 1) := by decide +kernel
theorem d4_1 : decode prog_13_method_3_code 1 = .ok (.getfield 16, 3) := by decide +kernel
theorem d4_4 : decode prog_13_method_3_code 4 = .ok (.aload_n 0, 1) := by decide +kernel
theorem d4_5 : decode prog_13_method_3_code 5 = .ok (.getfield 20, 3) := by decide +kernel
theorem d4_8 : decode prog_13_method_3_code 8 = .ok (.if_icmp .ge 24, 3) := by decide +kernel
theorem d4_11 : decode prog_13_method_3_code 11 = .ok (.aload_n 0, 1) := by decide +kernel
theorem d4_12 : decode prog_13_method_3_code 12 = .ok (.getfield 12, 3) := by decide +kernel
theorem d4_15 : decode prog_13_method_3_code 15 = .ok (.aload_n 0, 1) := by decide +kernel
theorem d4_16 : decode prog_13_method_3_code 16 = .ok (.getfield 16, 3) := by decide +kernel
theorem d4_19 : decode prog_13_method_3_code 19 = .ok (.baload, 1) := by decide +kernel
theorem d4_20 : decode prog_13_method_3_code 20 = .ok (.sipush 255, 3) := by decide +kernel
theorem d4_23 : decode prog_13_method_3_code 23 = .ok (.iand, 1) := by decide +kernel
theorem d4_24 : decode prog_13_method_3_code 24 = .ok (.iload_n 1, 1) := by decide +kernel
theorem d4_25 : decode prog_13_method_3_code 25 = .ok (.if_icmp .ne 7, 3) := by decide +kernel
theorem d4_28 : decode prog_13_method_3_code 28 = .ok (.iconst 1, 1) := by decide +kernel
theorem d4_29 : decode prog_13_method_3_code 29 = .ok (.goto 4, 3) := by decide +kernel
theorem d4_32 : decode prog_13_method_3_code 32 = .ok (.iconst 0, 1) := by decide +kernel
theorem d4_33 : decode prog_13_method_3_code 33 = .ok (.ireturn, 1) := by decide +kernel
theorem pd_4 : parseMethodDescriptor "(I)Z" = some ⟨[.int], some .boolean⟩ := by decide +kernel
theorem pf_4 : plainFor (⟨"com/example/middle_shelf/middleshelf/config/Der", "startsWith", "(I)Z"⟩ : MethodName) = true := plainFor_of_name (by first | (simp [plainName, overriddenIn, x]; done) | decide +kernel)
theorem ef_4 (m : MethodId) (a : Addr) (t : Int32) : entryFrame m #[(.ref a), (.int t)] 2 = mkF m 0 #[.val (.ref a), .val (.int t)] [] := by first | (simp [entryFrame, mkF, argsToLocals, Value.category]; done) | rfl
def own_starts (z v t : Int32) : Int32 := if (0 : Int32) < z then if (v &&& (255 : Int32)) = t then 1 else 0 else 0
theorem own_gt0 {z : Int32} {k : Nat} (hz : z.toInt = (k : Int)) (h : (0 : Int32) < z) : 0 < k := by
  rw [Int32.lt_iff_toInt_lt] at h
  have : (0 : Int32).toInt = 0 := by decide
  omega
set_option maxRecDepth 65536 in
set_option maxHeartbeats 40000000 in
theorem con_4 (l : Launch) (Z : State) (a0 : Array Value) (hw : ∀ d ∈ tables_1, d.before a0 Z = true) (a : Addr) (t : Int32) (ar : Addr) (k : Nat) (z v : Int32) (f : Nat → Value) (h0 : Heap) (n0 : Nat) (Z0 : n0 ≤ h0.size) (F1 : Fld Z h0 a "com/example/middle_shelf/middleshelf/config/Der" "bytes" "[B" (.ref ar)) (F2 : Fld Z h0 a "com/example/middle_shelf/middleshelf/config/Der" "at" "I" (.int (0 : Int32))) (F3 : Fld Z h0 a "com/example/middle_shelf/middleshelf/config/Der" "end" "I" (.int z)) (A0 : Af Z h0 ar .byte k f) (hz : z.toInt = (k : Int)) (hv : 0 < k → f 0 = .int v) : Con l Z (⟨"com/example/middle_shelf/middleshelf/config/Der", "startsWith", "(I)Z"⟩ : MethodName) prog_13_method_3_code 2 (some .boolean) ({ frames := 0, cells := 0, slots := 0, locals := 0 } : Room) #[(.ref a), (.int t)] h0 (Pure h0 (some (.int (own_starts z v t)))) := by
  refine Con.intro pf_4 ?_
  intro p e s m below meth c s₁ hx hby hml hown hnm hret hlk hZ X0 e0
  refine Ends.cast (ef_4 m a t) ?_
  have N0 := Fr.nil n0
  refine Ends.by (fun _ => XS.aloadN X0.here hx rfl (hb hby d4_0) rfl rfl) ?_
  show Ends p e below _ s₁ (mkF m 1 #[.val (.ref a), .val (.int t)] [(.ref a)])
  obtain ⟨T1, X1, e1, st1⟩ := getF X0 hx hZ hown (host := "") (Or.inl (hw _ (List.mem_of_getElem? (i := 15) rfl))) Via.refl e0 F2 (g := (mkF m 1 #[.val (.ref a), .val (.int t)] [(.ref a)])) rfl rfl (hb hby d4_1)
  refine Ends.by st1 ?_
  show Ends p e below _ T1 (mkF m 4 #[.val (.ref a), .val (.int t)] [(.int (0 : Int32))])
  refine Ends.by (fun _ => XS.aloadN X1.here hx rfl (hb hby d4_4) rfl rfl) ?_
  show Ends p e below _ T1 (mkF m 5 #[.val (.ref a), .val (.int t)] [(.ref a), (.int (0 : Int32))])
  obtain ⟨T2, X2, e2, st2⟩ := getF X1 hx hZ hown (host := "") (Or.inl (hw _ (List.mem_of_getElem? (i := 17) rfl))) Via.refl e1 F3 (g := (mkF m 5 #[.val (.ref a), .val (.int t)] [(.ref a), (.int (0 : Int32))])) rfl rfl (hb hby d4_5)
  refine Ends.by st2 ?_
  show Ends p e below _ T2 (mkF m 8 #[.val (.ref a), .val (.int t)] [(.int z), (.int (0 : Int32))])
  refine Ends.icmp X2 hx (hb hby d4_8) 32 (by decide) (by decide) (fun q => ?_) (fun q => ?_)
  · have c8 : ¬ ((0 : Int32) < z) := own_ge.1 q
    show Ends p e below _ T2 (mkF m 32 #[.val (.ref a), .val (.int t)] [])
    refine Ends.by (fun _ => XS.iconst X2.here hx rfl (hb hby d4_32)) ?_
    show Ends p e below _ T2 (mkF m 33 #[.val (.ref a), .val (.int t)] [(.int (0 : Int32))])
    exact Ends.retZ X2 hx hlk hret (hb hby d4_33) (by first | decide | (simp; done)) (by decide) (by decide) (by rw [e2]; exact ⟨by rw [own_starts, if_neg c8], rfl, rfl⟩)
  · have c8 : (0 : Int32) < z := own_ge.2 q
    show Ends p e below _ T2 (mkF m 11 #[.val (.ref a), .val (.int t)] [])
    refine Ends.by (fun _ => XS.aloadN X2.here hx rfl (hb hby d4_11) rfl rfl) ?_
    show Ends p e below _ T2 (mkF m 12 #[.val (.ref a), .val (.int t)] [(.ref a)])
    obtain ⟨T3, X3, e3, st3⟩ := getF X2 hx hZ hown (host := "") (Or.inl (hw _ (List.mem_of_getElem? (i := 13) rfl))) Via.refl e2 F1 (g := (mkF m 12 #[.val (.ref a), .val (.int t)] [(.ref a)])) rfl rfl (hb hby d4_12)
    refine Ends.by st3 ?_
    show Ends p e below _ T3 (mkF m 15 #[.val (.ref a), .val (.int t)] [(.ref ar)])
    refine Ends.by (fun _ => XS.aloadN X3.here hx rfl (hb hby d4_15) rfl rfl) ?_
    show Ends p e below _ T3 (mkF m 16 #[.val (.ref a), .val (.int t)] [(.ref a), (.ref ar)])
    obtain ⟨T4, X4, e4, st4⟩ := getF X3 hx hZ hown (host := "") (Or.inl (hw _ (List.mem_of_getElem? (i := 15) rfl))) Via.refl e3 F2 (g := (mkF m 16 #[.val (.ref a), .val (.int t)] [(.ref a), (.ref ar)])) rfl rfl (hb hby d4_16)
    refine Ends.by st4 ?_
    show Ends p e below _ T4 (mkF m 19 #[.val (.ref a), .val (.int t)] [(.int (0 : Int32)), (.ref ar)])
    refine Ends.ldB X4 hx hZ e4 A0 (k := 0) (by decide) (own_gt0 hz c8) (v := (.int v)) (hv (own_gt0 hz c8)) (hb hby d4_19) ?_
    show Ends p e below _ T4 (mkF m 20 #[.val (.ref a), .val (.int t)] [(.int v)])
    refine Ends.by (fun _ => XS.sipush X4.here hx rfl (hb hby d4_20)) ?_
    show Ends p e below _ T4 (mkF m 23 #[.val (.ref a), .val (.int t)] [(.int (255 : Int32)), (.int v)])
    refine Ends.by (fun _ => XS.iand X4.here hx rfl (hb hby d4_23) rfl) ?_
    show Ends p e below _ T4 (mkF m 24 #[.val (.ref a), .val (.int t)] [(.int (v &&& (255 : Int32)))])
    refine Ends.by (fun _ => XS.iloadN X4.here hx rfl (hb hby d4_24) rfl) ?_
    show Ends p e below _ T4 (mkF m 25 #[.val (.ref a), .val (.int t)] [(.int t), (.int (v &&& (255 : Int32)))])
    refine Ends.icmp X4 hx (hb hby d4_25) 32 (by decide) (by decide) (fun q => ?_) (fun q => ?_)
    · have c25 : ¬ ((v &&& (255 : Int32)) = t) := own_ne.1 q
      show Ends p e below _ T4 (mkF m 32 #[.val (.ref a), .val (.int t)] [])
      refine Ends.by (fun _ => XS.iconst X4.here hx rfl (hb hby d4_32)) ?_
      show Ends p e below _ T4 (mkF m 33 #[.val (.ref a), .val (.int t)] [(.int (0 : Int32))])
      exact Ends.retZ X4 hx hlk hret (hb hby d4_33) (by first | decide | (simp; done)) (by decide) (by decide) (by rw [e4]; exact ⟨by rw [own_starts, if_pos c8, if_neg c25], rfl, rfl⟩)
    · have c25 : (v &&& (255 : Int32)) = t := own_ne.2 q
      show Ends p e below _ T4 (mkF m 28 #[.val (.ref a), .val (.int t)] [])
      refine Ends.by (fun _ => XS.iconst X4.here hx rfl (hb hby d4_28)) ?_
      show Ends p e below _ T4 (mkF m 29 #[.val (.ref a), .val (.int t)] [(.int (1 : Int32))])
      refine Ends.by (fun _ => XS.goto X4.here hx rfl (pc0 := 29) (pc' := 33) rfl (hb hby d4_29) (by decide) (by decide)) ?_
      show Ends p e below _ T4 (mkF m 33 #[.val (.ref a), .val (.int t)] [(.int (1 : Int32))])
      exact Ends.retZ X4 hx hlk hret (hb hby d4_33) (by first | decide | (simp; done)) (by decide) (by decide) (by rw [e4]; exact ⟨by rw [own_starts, if_pos c8, if_pos c25], rfl, rfl⟩)
theorem own_byte (b : Int32) : ((b.toInt8.toInt32)).toInt8.toInt32 &&& 255 = b &&& 255 := by
  apply Int32.toInt_inj.mp
  have e1 : ((b.toInt8.toInt32).toInt8.toInt32 &&& 255).toInt = ((b.toInt8.toInt32).toInt8.toInt32).toInt % (2 ^ 8 : Nat) := c_mask _ 255 8 (by decide) (by decide)
  have e2 : (b &&& 255).toInt = b.toInt % (2 ^ 8 : Nat) := c_mask b 255 8 (by decide) (by decide)
  have e3 := c_i2b b
  have e4 := c_i2b b.toInt8.toInt32
  omega
theorem own_s0 (t : Int32) : own_starts 0 0 t = 0 := rfl
theorem own_s2y (b t : Int32) (h : t = b &&& 255) : own_starts 2 (((b.toInt8.toInt32)).toInt8.toInt32) t = 1 := by
  rw [own_starts, if_pos (by decide), if_pos (by rw [own_byte, h])]
theorem own_s2n (b t : Int32) (h : ¬ t = b &&& 255) : own_starts 2 (((b.toInt8.toInt32)).toInt8.toInt32) t = 0 := by
  rw [own_starts, if_pos (by decide), if_neg (by rw [own_byte]; exact fun q => h q.symm)]
theorem pd_0 : parseMethodDescriptor "(IIIII)Z" = some ⟨[.int, .int, .int, .int, .int], some .boolean⟩ := by decide +kernel
theorem pf_0 : plainFor x = true := plainFor_of_name (by first | (simp [plainName, overriddenIn, x]; done) | decide +kernel)
theorem ef_0 (m : MethodId) (i0 : Int32) (i1 : Int32) (i2 : Int32) (i3 : Int32) (i4 : Int32) : entryFrame m #[(.int i0), (.int i1), (.int i2), (.int i3), (.int i4)] maxLocals = mkF m 0 #[.val (.int i0), .val (.int i1), .val (.int i2), .val (.int i3), .val (.int i4), .unset, .unset, .unset, .unset, .unset, .unset, .unset, .unset] [] := by first | (simp [entryFrame, mkF, argsToLocals, Value.category, maxLocals]; done) | rfl
set_option maxRecDepth 65536 in
set_option maxHeartbeats 40000000 in
theorem con_0 (l : Launch) (Z : State) (a0 : Array Value) (hw : ∀ d ∈ tables_1, d.before a0 Z = true) (i0 : Int32) (i1 : Int32) (i2 : Int32) (i3 : Int32) (i4 : Int32)  (h0 : Heap) (n0 : Nat) (Z0 : n0 ≤ h0.size) : Con l Z x code maxLocals ret room_1 #[(.int i0), (.int i1), (.int i2), (.int i3), (.int i4)] h0 (fun v h L => v = some (.int 1) ∧ Fr n0 L) := by
  refine Con.intro pf_0 ?_
  intro p e s m below meth c s₁ hx hby hml hown hnm hret hlk hZ X0 e0
  refine Ends.cast (ef_0 m i0 i1 i2 i3 i4) ?_
  have N0 := Fr.nil n0
  refine Ends.by (fun _ => XS.iloadN X0.here hx rfl (hb hby at_0) rfl) ?_
  show Ends p e below _ s₁ (mkF m 1 #[.val (.int i0), .val (.int i1), .val (.int i2), .val (.int i3), .val (.int i4), .unset, .unset, .unset, .unset, .unset, .unset, .unset, .unset] [(.int i0)])
  refine Ends.by (fun _ => XS.iconst X0.here hx rfl (hb hby at_1)) ?_
  show Ends p e below _ s₁ (mkF m 2 #[.val (.int i0), .val (.int i1), .val (.int i2), .val (.int i3), .val (.int i4), .unset, .unset, .unset, .unset, .unset, .unset, .unset, .unset] [(.int (1 : Int32)), (.int i0)])
  refine Ends.by (fun _ => XS.iand X0.here hx rfl (hb hby at_2) rfl) ?_
  show Ends p e below _ s₁ (mkF m 3 #[.val (.int i0), .val (.int i1), .val (.int i2), .val (.int i3), .val (.int i4), .unset, .unset, .unset, .unset, .unset, .unset, .unset, .unset] [(.int (i0 &&& (1 : Int32)))])
  refine Ends.ifc X0 hx (hb hby at_3) 10 (by decide) (by decide) (fun q => ?_) (fun q => ?_)
  · have c3 : ¬ ((i0 &&& (1 : Int32)) = (0 : Int32)) := own_ne.1 q
    show Ends p e below _ s₁ (mkF m 10 #[.val (.int i0), .val (.int i1), .val (.int i2), .val (.int i3), .val (.int i4), .unset, .unset, .unset, .unset, .unset, .unset, .unset, .unset] [])
    refine Ends.by (fun _ => XS.iconst X0.here hx rfl (hb hby at_10)) ?_
    show Ends p e below _ s₁ (mkF m 11 #[.val (.int i0), .val (.int i1), .val (.int i2), .val (.int i3), .val (.int i4), .unset, .unset, .unset, .unset, .unset, .unset, .unset, .unset] [(.int (0 : Int32))])
    refine Ends.by (fun _ => XS.istore X0.here hx rfl (hb hby at_11) rfl (l' := #[.val (.int i0), .val (.int i1), .val (.int i2), .val (.int i3), .val (.int i4), .val (.int (0 : Int32)), .unset, .unset, .unset, .unset, .unset, .unset, .unset]) rfl) ?_
    show Ends p e below _ s₁ (mkF m 13 #[.val (.int i0), .val (.int i1), .val (.int i2), .val (.int i3), .val (.int i4), .val (.int (0 : Int32)), .unset, .unset, .unset, .unset, .unset, .unset, .unset] [])
    refine Ends.by (fun _ => XS.iload X0.here hx rfl (hb hby at_13) rfl) ?_
    show Ends p e below _ s₁ (mkF m 15 #[.val (.int i0), .val (.int i1), .val (.int i2), .val (.int i3), .val (.int i4), .val (.int (0 : Int32)), .unset, .unset, .unset, .unset, .unset, .unset, .unset] [(.int (0 : Int32))])
    refine Ends.ifc X0 hx (hb hby at_15) 26 (by decide) (by decide) (fun q => ?_) (fun q => ?_)
    · have c15 : (0 : Int32) = (0 : Int32) := own_eq.1 q
      show Ends p e below _ s₁ (mkF m 26 #[.val (.int i0), .val (.int i1), .val (.int i2), .val (.int i3), .val (.int i4), .val (.int (0 : Int32)), .unset, .unset, .unset, .unset, .unset, .unset, .unset] [])
      refine Ends.by (fun _ => XS.iconst X0.here hx rfl (hb hby at_26)) ?_
      show Ends p e below _ s₁ (mkF m 27 #[.val (.int i0), .val (.int i1), .val (.int i2), .val (.int i3), .val (.int i4), .val (.int (0 : Int32)), .unset, .unset, .unset, .unset, .unset, .unset, .unset] [(.int (2 : Int32))])
      refine Ends.newA X0 hx hZ (hw _ (List.mem_of_getElem? (i := 0) rfl)) e0 (n := 2) (by decide) 2 (by decide) (by decide) (by decide) (by decide) rfl (ad := "[B") (by decide) (hb hby at_27) ?_
      intro T1 h1 X1 e1 E1 A1 Q1
      obtain ⟨b1, g1⟩ : ∃ z, z = h0.size := ⟨_, rfl⟩
      rw [← g1] at A1 Q1 ⊢
      have Z1 : n0 ≤ h1.size := Nat.le_trans Z0 E1.1
      have g_b1 : n0 ≤ b1 := Nat.le_trans Z0 (Nat.le_of_eq g1.symm)
      have A_b1 : Af Z h1 b1 .byte 2 (fun q => .int ((fun _ => (0 : Int32)) q)) := A1
      show Ends p e below _ T1 (mkF m 29 #[.val (.int i0), .val (.int i1), .val (.int i2), .val (.int i3), .val (.int i4), .val (.int (0 : Int32)), .unset, .unset, .unset, .unset, .unset, .unset, .unset] [(.ref b1)])
      refine Ends.by (fun _ => XS.dup X1.here hx rfl (hb hby at_29) rfl rfl) ?_
      show Ends p e below _ T1 (mkF m 30 #[.val (.int i0), .val (.int i1), .val (.int i2), .val (.int i3), .val (.int i4), .val (.int (0 : Int32)), .unset, .unset, .unset, .unset, .unset, .unset, .unset] [(.ref b1), (.ref b1)])
      refine Ends.by (fun _ => XS.iconst X1.here hx rfl (hb hby at_30)) ?_
      show Ends p e below _ T1 (mkF m 31 #[.val (.int i0), .val (.int i1), .val (.int i2), .val (.int i3), .val (.int i4), .val (.int (0 : Int32)), .unset, .unset, .unset, .unset, .unset, .unset, .unset] [(.int (0 : Int32)), (.ref b1), (.ref b1)])
      refine Ends.by (fun _ => XS.iloadN X1.here hx rfl (hb hby at_31) rfl) ?_
      show Ends p e below _ T1 (mkF m 32 #[.val (.int i0), .val (.int i1), .val (.int i2), .val (.int i3), .val (.int i4), .val (.int (0 : Int32)), .unset, .unset, .unset, .unset, .unset, .unset, .unset] [(.int i1), (.int (0 : Int32)), (.ref b1), (.ref b1)])
      refine Ends.by (fun _ => XS.i2b X1.here hx rfl (hb hby at_32) rfl) ?_
      show Ends p e below _ T1 (mkF m 33 #[.val (.int i0), .val (.int i1), .val (.int i2), .val (.int i3), .val (.int i4), .val (.int (0 : Int32)), .unset, .unset, .unset, .unset, .unset, .unset, .unset] [(.int (i1.toInt8.toInt32)), (.int (0 : Int32)), (.ref b1), (.ref b1)])
      refine Ends.stB X1 hx hZ e1 N0 g_b1 A_b1 (k := 0) (by decide) (by decide) (hb hby at_33) ?_
      intro T2 h2 L2 X2 e2 N2 W2 B2
      have C2 : Af Z h2 b1 .byte 2 (fun q => .int ((upd (fun _ => (0 : Int32)) 0 ((i1.toInt8.toInt32)).toInt8.toInt32) q)) := B2.congr (fun q _ => own_updI (fun _ => (0 : Int32)) 0 _ q)
      have E_b1_2 : Exa Z h2 b1 "[B" := Q1.wr W2
      have Z2 : n0 ≤ h2.size := Nat.le_trans Z1 (Nat.le_of_eq W2.size.symm)
      show Ends p e below _ T2 (mkF m 34 #[.val (.int i0), .val (.int i1), .val (.int i2), .val (.int i3), .val (.int i4), .val (.int (0 : Int32)), .unset, .unset, .unset, .unset, .unset, .unset, .unset] [(.ref b1)])
      refine Ends.by (fun _ => XS.dup X2.here hx rfl (hb hby at_34) rfl rfl) ?_
      show Ends p e below _ T2 (mkF m 35 #[.val (.int i0), .val (.int i1), .val (.int i2), .val (.int i3), .val (.int i4), .val (.int (0 : Int32)), .unset, .unset, .unset, .unset, .unset, .unset, .unset] [(.ref b1), (.ref b1)])
      refine Ends.by (fun _ => XS.iconst X2.here hx rfl (hb hby at_35)) ?_
      show Ends p e below _ T2 (mkF m 36 #[.val (.int i0), .val (.int i1), .val (.int i2), .val (.int i3), .val (.int i4), .val (.int (0 : Int32)), .unset, .unset, .unset, .unset, .unset, .unset, .unset] [(.int (1 : Int32)), (.ref b1), (.ref b1)])
      refine Ends.by (fun _ => XS.iloadN X2.here hx rfl (hb hby at_36) rfl) ?_
      show Ends p e below _ T2 (mkF m 37 #[.val (.int i0), .val (.int i1), .val (.int i2), .val (.int i3), .val (.int i4), .val (.int (0 : Int32)), .unset, .unset, .unset, .unset, .unset, .unset, .unset] [(.int i2), (.int (1 : Int32)), (.ref b1), (.ref b1)])
      refine Ends.by (fun _ => XS.i2b X2.here hx rfl (hb hby at_37) rfl) ?_
      show Ends p e below _ T2 (mkF m 38 #[.val (.int i0), .val (.int i1), .val (.int i2), .val (.int i3), .val (.int i4), .val (.int (0 : Int32)), .unset, .unset, .unset, .unset, .unset, .unset, .unset] [(.int (i2.toInt8.toInt32)), (.int (1 : Int32)), (.ref b1), (.ref b1)])
      refine Ends.stB X2 hx hZ e2 N2 g_b1 C2 (k := 1) (by decide) (by decide) (hb hby at_38) ?_
      intro T3 h3 L3 X3 e3 N3 W3 B3
      have C3 : Af Z h3 b1 .byte 2 (fun q => .int ((upd (upd (fun _ => (0 : Int32)) 0 ((i1.toInt8.toInt32)).toInt8.toInt32) 1 ((i2.toInt8.toInt32)).toInt8.toInt32) q)) := B3.congr (fun q _ => own_updI (upd (fun _ => (0 : Int32)) 0 ((i1.toInt8.toInt32)).toInt8.toInt32) 1 _ q)
      have E_b1_3 : Exa Z h3 b1 "[B" := E_b1_2.wr W3
      have Z3 : n0 ≤ h3.size := Nat.le_trans Z2 (Nat.le_of_eq W3.size.symm)
      show Ends p e below _ T3 (mkF m 39 #[.val (.int i0), .val (.int i1), .val (.int i2), .val (.int i3), .val (.int i4), .val (.int (0 : Int32)), .unset, .unset, .unset, .unset, .unset, .unset, .unset] [(.ref b1)])
      refine Ends.by (fun _ => XS.astore X3.here hx rfl (hb hby at_39) rfl rfl (l' := #[.val (.int i0), .val (.int i1), .val (.int i2), .val (.int i3), .val (.int i4), .val (.int (0 : Int32)), .val (.ref b1), .unset, .unset, .unset, .unset, .unset, .unset]) rfl) ?_
      show Ends p e below _ T3 (mkF m 41 #[.val (.int i0), .val (.int i1), .val (.int i2), .val (.int i3), .val (.int i4), .val (.int (0 : Int32)), .val (.ref b1), .unset, .unset, .unset, .unset, .unset, .unset] [])
      refine Ends.by (fun _ => XS.iload X3.here hx rfl (hb hby at_41) rfl) ?_
      show Ends p e below _ T3 (mkF m 43 #[.val (.int i0), .val (.int i1), .val (.int i2), .val (.int i3), .val (.int i4), .val (.int (0 : Int32)), .val (.ref b1), .unset, .unset, .unset, .unset, .unset, .unset] [(.int i4)])
      refine Ends.by (fun _ => XS.iconst X3.here hx rfl (hb hby at_43)) ?_
      show Ends p e below _ T3 (mkF m 44 #[.val (.int i0), .val (.int i1), .val (.int i2), .val (.int i3), .val (.int i4), .val (.int (0 : Int32)), .val (.ref b1), .unset, .unset, .unset, .unset, .unset, .unset] [(.int (3 : Int32)), (.int i4)])
      refine Ends.by (fun _ => XS.iand X3.here hx rfl (hb hby at_44) rfl) ?_
      show Ends p e below _ T3 (mkF m 45 #[.val (.int i0), .val (.int i1), .val (.int i2), .val (.int i3), .val (.int i4), .val (.int (0 : Int32)), .val (.ref b1), .unset, .unset, .unset, .unset, .unset, .unset] [(.int (i4 &&& (3 : Int32)))])
      refine Ends.by (fun _ => XS.istore X3.here hx rfl (hb hby at_45) rfl (l' := #[.val (.int i0), .val (.int i1), .val (.int i2), .val (.int i3), .val (.int i4), .val (.int (0 : Int32)), .val (.ref b1), .val (.int (i4 &&& (3 : Int32))), .unset, .unset, .unset, .unset, .unset]) rfl) ?_
      show Ends p e below _ T3 (mkF m 47 #[.val (.int i0), .val (.int i1), .val (.int i2), .val (.int i3), .val (.int i4), .val (.int (0 : Int32)), .val (.ref b1), .val (.int (i4 &&& (3 : Int32))), .unset, .unset, .unset, .unset, .unset] [])
      have J : ∀ t : Int32, Ends p e below (Fini s (fun v h L => v = some (.int 1) ∧ Fr n0 L) room_1.cells room_1.slots) T3 (mkF m 100 #[.val (.int i0), .val (.int i1), .val (.int i2), .val (.int i3), .val (.int i4), .val (.int (0 : Int32)), .val (.ref b1), .val (.int (i4 &&& (3 : Int32))), .val (.int t), .unset, .unset, .unset, .unset] []) := by
        intro t
        obtain ⟨T4, h4, X4, e4, E4, A4, D4, -, st4⟩ := newO X3 hx hZ hown (hw _ (List.mem_of_getElem? (i := 1) rfl)) (hw _ (List.mem_of_getElem? (i := 2) rfl)) (hw _ (List.mem_of_getElem? (i := 3) rfl)) e3 (g := (mkF m 100 #[.val (.int i0), .val (.int i1), .val (.int i2), .val (.int i3), .val (.int i4), .val (.int (0 : Int32)), .val (.ref b1), .val (.int (i4 &&& (3 : Int32))), .val (.int t), .unset, .unset, .unset, .unset] [])) rfl (hb hby at_100) (by decide) (by decide)
        obtain ⟨b4, g4⟩ : ∃ z, z = h3.size := ⟨_, rfl⟩
        rw [← g4] at A4 D4 st4
        refine Ends.by st4 ?_
        have E_b1_4 : Exa Z h4 b1 "[B" := E_b1_3.ext E4
        have A_b1_4 : Af Z h4 b1 .byte 2 (fun q => .int ((upd (upd (fun _ => (0 : Int32)) 0 ((i1.toInt8.toInt32)).toInt8.toInt32) 1 ((i2.toInt8.toInt32)).toInt8.toInt32) q)) := C3.ext E4
        have Z4 : n0 ≤ h4.size := Nat.le_trans Z3 E4.1
        have g_b4 : n0 ≤ b4 := Nat.le_trans Z3 (Nat.le_of_eq g4.symm)
        have ne_b1_b4 : b1 ≠ b4 := Nat.ne_of_lt (Nat.lt_of_lt_of_le E_b1_3.lt (Nat.le_of_eq g4.symm))
        have F_b4_bytes : Fld Z h4 b4 "com/example/middle_shelf/middleshelf/config/Der" "bytes" "[B" .null := D4 (Or.inr (hw _ (List.mem_of_getElem? (i := 14) rfl))) (ty := (.array .byte)) (by decide)
        have F_b4_at : Fld Z h4 b4 "com/example/middle_shelf/middleshelf/config/Der" "at" "I" (.int (0 : Int32)) := D4 (Or.inl (hw _ (List.mem_of_getElem? (i := 16) rfl))) (ty := .int) (by decide)
        have F_b4_end : Fld Z h4 b4 "com/example/middle_shelf/middleshelf/config/Der" "end" "I" (.int (0 : Int32)) := D4 (Or.inr (hw _ (List.mem_of_getElem? (i := 18) rfl))) (ty := .int) (by decide)
        show Ends p e below _ T4 (mkF m 103 #[.val (.int i0), .val (.int i1), .val (.int i2), .val (.int i3), .val (.int i4), .val (.int (0 : Int32)), .val (.ref b1), .val (.int (i4 &&& (3 : Int32))), .val (.int t), .unset, .unset, .unset, .unset] [(.ref b4)])
        refine Ends.by (fun _ => XS.dup X4.here hx rfl (hb hby at_103) rfl rfl) ?_
        show Ends p e below _ T4 (mkF m 104 #[.val (.int i0), .val (.int i1), .val (.int i2), .val (.int i3), .val (.int i4), .val (.int (0 : Int32)), .val (.ref b1), .val (.int (i4 &&& (3 : Int32))), .val (.int t), .unset, .unset, .unset, .unset] [(.ref b4), (.ref b4)])
        refine Ends.by (fun _ => XS.aload X4.here hx rfl (hb hby at_104) rfl rfl) ?_
        show Ends p e below _ T4 (mkF m 106 #[.val (.int i0), .val (.int i1), .val (.int i2), .val (.int i3), .val (.int i4), .val (.int (0 : Int32)), .val (.ref b1), .val (.int (i4 &&& (3 : Int32))), .val (.int t), .unset, .unset, .unset, .unset] [(.ref b1), (.ref b4), (.ref b4)])
        refine Ends.callI (a := b4) (argsL := [(.ref b1)]) (rest := [(.ref b4)]) X4 hx hZ rfl hown (hw _ (List.mem_of_getElem? (i := 4) rfl)) (hw _ (List.mem_of_getElem? (i := 5) rfl)) (hw _ (List.mem_of_getElem? (i := 3) rfl)) (hw _ (List.mem_of_getElem? (i := 6) rfl)) (by decide) (con_1 l Z a0 hw b4 b1 2 (2 : Int32) (fun q => .int ((upd (upd (fun _ => (0 : Int32)) 0 ((i1.toInt8.toInt32)).toInt8.toInt32) 1 ((i2.toInt8.toInt32)).toInt8.toInt32) q)) h4 n0 Z4 A4 F_b4_bytes F_b4_at F_b4_end g_b4 A_b1_4 (by decide)) e4 (by rw [hml]; rfl) (hb hby at_106) (lenOf pd_1 rfl) 1 (Nat.le_of_eq rfl) (by decide) (by decide) (by decide) (by decide) ?_
        intro v T5 L5 X5 hQ
        obtain ⟨rfl, N5q, K5q, E5q, F5q, G5q, H5q⟩ := hQ
        have N5 := Fr.app N3 N5q
        have E_b1_5 : Exa Z T5.heap b1 "[B" := E_b1_4.keep K5q
        have A_b1_5 : Af Z T5.heap b1 .byte 2 (fun q => .int ((upd (upd (fun _ => (0 : Int32)) 0 ((i1.toInt8.toInt32)).toInt8.toInt32) 1 ((i2.toInt8.toInt32)).toInt8.toInt32) q)) := A_b1_4.keep K5q (ninS ne_b1_b4 nin0)
        have E_b4_5 : Exa Z T5.heap b4 "com/example/middle_shelf/middleshelf/config/Der" := A4.keep K5q
        have Z5 : n0 ≤ T5.heap.size := Nat.le_trans Z4 K5q.1
        show Ends p e below _ T5 (mkF m 109 #[.val (.int i0), .val (.int i1), .val (.int i2), .val (.int i3), .val (.int i4), .val (.int (0 : Int32)), .val (.ref b1), .val (.int (i4 &&& (3 : Int32))), .val (.int t), .unset, .unset, .unset, .unset] [(.ref b4)])
        refine Ends.by (fun _ => XS.astore X5.here hx rfl (hb hby at_109) rfl rfl (l' := #[.val (.int i0), .val (.int i1), .val (.int i2), .val (.int i3), .val (.int i4), .val (.int (0 : Int32)), .val (.ref b1), .val (.int (i4 &&& (3 : Int32))), .val (.int t), .val (.ref b4), .unset, .unset, .unset]) rfl) ?_
        show Ends p e below _ T5 (mkF m 111 #[.val (.int i0), .val (.int i1), .val (.int i2), .val (.int i3), .val (.int i4), .val (.int (0 : Int32)), .val (.ref b1), .val (.int (i4 &&& (3 : Int32))), .val (.int t), .val (.ref b4), .unset, .unset, .unset] [])
        refine Ends.by (fun _ => XS.iload X5.here hx rfl (hb hby at_111) rfl) ?_
        show Ends p e below _ T5 (mkF m 113 #[.val (.int i0), .val (.int i1), .val (.int i2), .val (.int i3), .val (.int i4), .val (.int (0 : Int32)), .val (.ref b1), .val (.int (i4 &&& (3 : Int32))), .val (.int t), .val (.ref b4), .unset, .unset, .unset] [(.int (0 : Int32))])
        refine Ends.ifc X5 hx (hb hby at_113) 130 (by decide) (by decide) (fun q => ?_) (fun q => ?_)
        · have c113 : ¬ ((0 : Int32) = (0 : Int32)) := own_ne.1 q
          exact absurd c113 (by decide)
        · have c113 : (0 : Int32) = (0 : Int32) := own_ne.2 q
          show Ends p e below _ T5 (mkF m 116 #[.val (.int i0), .val (.int i1), .val (.int i2), .val (.int i3), .val (.int i4), .val (.int (0 : Int32)), .val (.ref b1), .val (.int (i4 &&& (3 : Int32))), .val (.int t), .val (.ref b4), .unset, .unset, .unset] [])
          refine Ends.by (fun _ => XS.iload X5.here hx rfl (hb hby at_116) rfl) ?_
          show Ends p e below _ T5 (mkF m 118 #[.val (.int i0), .val (.int i1), .val (.int i2), .val (.int i3), .val (.int i4), .val (.int (0 : Int32)), .val (.ref b1), .val (.int (i4 &&& (3 : Int32))), .val (.int t), .val (.ref b4), .unset, .unset, .unset] [(.int t)])
          refine Ends.by (fun _ => XS.iloadN X5.here hx rfl (hb hby at_118) rfl) ?_
          show Ends p e below _ T5 (mkF m 119 #[.val (.int i0), .val (.int i1), .val (.int i2), .val (.int i3), .val (.int i4), .val (.int (0 : Int32)), .val (.ref b1), .val (.int (i4 &&& (3 : Int32))), .val (.int t), .val (.ref b4), .unset, .unset, .unset] [(.int i1), (.int t)])
          refine Ends.by (fun _ => XS.sipush X5.here hx rfl (hb hby at_119)) ?_
          show Ends p e below _ T5 (mkF m 122 #[.val (.int i0), .val (.int i1), .val (.int i2), .val (.int i3), .val (.int i4), .val (.int (0 : Int32)), .val (.ref b1), .val (.int (i4 &&& (3 : Int32))), .val (.int t), .val (.ref b4), .unset, .unset, .unset] [(.int (255 : Int32)), (.int i1), (.int t)])
          refine Ends.by (fun _ => XS.iand X5.here hx rfl (hb hby at_122) rfl) ?_
          show Ends p e below _ T5 (mkF m 123 #[.val (.int i0), .val (.int i1), .val (.int i2), .val (.int i3), .val (.int i4), .val (.int (0 : Int32)), .val (.ref b1), .val (.int (i4 &&& (3 : Int32))), .val (.int t), .val (.ref b4), .unset, .unset, .unset] [(.int (i1 &&& (255 : Int32))), (.int t)])
          refine Ends.icmp X5 hx (hb hby at_123) 130 (by decide) (by decide) (fun q => ?_) (fun q => ?_)
          · have c123 : ¬ (t = (i1 &&& (255 : Int32))) := own_ne.1 q
            show Ends p e below _ T5 (mkF m 130 #[.val (.int i0), .val (.int i1), .val (.int i2), .val (.int i3), .val (.int i4), .val (.int (0 : Int32)), .val (.ref b1), .val (.int (i4 &&& (3 : Int32))), .val (.int t), .val (.ref b4), .unset, .unset, .unset] [])
            refine Ends.by (fun _ => XS.iconst X5.here hx rfl (hb hby at_130)) ?_
            show Ends p e below _ T5 (mkF m 131 #[.val (.int i0), .val (.int i1), .val (.int i2), .val (.int i3), .val (.int i4), .val (.int (0 : Int32)), .val (.ref b1), .val (.int (i4 &&& (3 : Int32))), .val (.int t), .val (.ref b4), .unset, .unset, .unset] [(.int (0 : Int32))])
            refine Ends.by (fun _ => XS.istore X5.here hx rfl (hb hby at_131) rfl (l' := #[.val (.int i0), .val (.int i1), .val (.int i2), .val (.int i3), .val (.int i4), .val (.int (0 : Int32)), .val (.ref b1), .val (.int (i4 &&& (3 : Int32))), .val (.int t), .val (.ref b4), .val (.int (0 : Int32)), .unset, .unset]) rfl) ?_
            show Ends p e below _ T5 (mkF m 133 #[.val (.int i0), .val (.int i1), .val (.int i2), .val (.int i3), .val (.int i4), .val (.int (0 : Int32)), .val (.ref b1), .val (.int (i4 &&& (3 : Int32))), .val (.int t), .val (.ref b4), .val (.int (0 : Int32)), .unset, .unset] [])
            refine Ends.by (fun _ => XS.aload X5.here hx rfl (hb hby at_133) rfl rfl) ?_
            show Ends p e below _ T5 (mkF m 135 #[.val (.int i0), .val (.int i1), .val (.int i2), .val (.int i3), .val (.int i4), .val (.int (0 : Int32)), .val (.ref b1), .val (.int (i4 &&& (3 : Int32))), .val (.int t), .val (.ref b4), .val (.int (0 : Int32)), .unset, .unset] [(.ref b4)])
            refine Ends.by (fun _ => XS.iload X5.here hx rfl (hb hby at_135) rfl) ?_
            show Ends p e below _ T5 (mkF m 137 #[.val (.int i0), .val (.int i1), .val (.int i2), .val (.int i3), .val (.int i4), .val (.int (0 : Int32)), .val (.ref b1), .val (.int (i4 &&& (3 : Int32))), .val (.int t), .val (.ref b4), .val (.int (0 : Int32)), .unset, .unset] [(.int t), (.ref b4)])
            refine Ends.callV (a := b4) (argsL := [(.int t)]) (rest := []) X5 hx hZ hown (hw _ (List.mem_of_getElem? (i := 19) rfl)) (hw _ (List.mem_of_getElem? (i := 20) rfl)) (hw _ (List.mem_of_getElem? (i := 21) rfl)) (hw _ (List.mem_of_getElem? (i := 22) rfl)) (hw _ (List.mem_of_getElem? (i := 3) rfl)) (hw _ (List.mem_of_getElem? (i := 23) rfl)) (by decide) (con_4 l Z a0 hw b4 t b1 2 (2 : Int32) (((i1.toInt8.toInt32)).toInt8.toInt32) (fun q => .int ((upd (upd (fun _ => (0 : Int32)) 0 ((i1.toInt8.toInt32)).toInt8.toInt32) 1 ((i2.toInt8.toInt32)).toInt8.toInt32) q)) T5.heap n0 Z5 F5q G5q H5q A_b1_5 (by decide) (fun _ => rfl)) rfl E5q (by rw [hml]; rfl) (hb hby at_137) (lenOf pd_4 rfl) 0 (Nat.le_of_eq rfl) (by decide) (by decide) (by decide) (by decide) ?_
            intro v T6 L6 X6 hQ
            obtain ⟨rfl, e6, rfl⟩ := hQ
            rw [List.append_nil] at X6
            show Ends p e below _ T6 (mkF m 140 #[.val (.int i0), .val (.int i1), .val (.int i2), .val (.int i3), .val (.int i4), .val (.int (0 : Int32)), .val (.ref b1), .val (.int (i4 &&& (3 : Int32))), .val (.int t), .val (.ref b4), .val (.int (0 : Int32)), .unset, .unset] [(.int (own_starts (2 : Int32) (((i1.toInt8.toInt32)).toInt8.toInt32) t))])
            refine Ends.by (fun _ => XS.istore X6.here hx rfl (hb hby at_140) rfl (l' := #[.val (.int i0), .val (.int i1), .val (.int i2), .val (.int i3), .val (.int i4), .val (.int (0 : Int32)), .val (.ref b1), .val (.int (i4 &&& (3 : Int32))), .val (.int t), .val (.ref b4), .val (.int (0 : Int32)), .val (.int (own_starts (2 : Int32) (((i1.toInt8.toInt32)).toInt8.toInt32) t)), .unset]) rfl) ?_
            show Ends p e below _ T6 (mkF m 142 #[.val (.int i0), .val (.int i1), .val (.int i2), .val (.int i3), .val (.int i4), .val (.int (0 : Int32)), .val (.ref b1), .val (.int (i4 &&& (3 : Int32))), .val (.int t), .val (.ref b4), .val (.int (0 : Int32)), .val (.int (own_starts (2 : Int32) (((i1.toInt8.toInt32)).toInt8.toInt32) t)), .unset] [])
            refine Ends.by (fun _ => XS.aload X6.here hx rfl (hb hby at_142) rfl rfl) ?_
            show Ends p e below _ T6 (mkF m 144 #[.val (.int i0), .val (.int i1), .val (.int i2), .val (.int i3), .val (.int i4), .val (.int (0 : Int32)), .val (.ref b1), .val (.int (i4 &&& (3 : Int32))), .val (.int t), .val (.ref b4), .val (.int (0 : Int32)), .val (.int (own_starts (2 : Int32) (((i1.toInt8.toInt32)).toInt8.toInt32) t)), .unset] [(.ref b4)])
            refine Ends.by (fun _ => XS.iload X6.here hx rfl (hb hby at_144) rfl) ?_
            show Ends p e below _ T6 (mkF m 146 #[.val (.int i0), .val (.int i1), .val (.int i2), .val (.int i3), .val (.int i4), .val (.int (0 : Int32)), .val (.ref b1), .val (.int (i4 &&& (3 : Int32))), .val (.int t), .val (.ref b4), .val (.int (0 : Int32)), .val (.int (own_starts (2 : Int32) (((i1.toInt8.toInt32)).toInt8.toInt32) t)), .unset] [(.int t), (.ref b4)])
            refine Ends.callV (a := b4) (argsL := [(.int t)]) (rest := []) X6 hx hZ hown (hw _ (List.mem_of_getElem? (i := 19) rfl)) (hw _ (List.mem_of_getElem? (i := 20) rfl)) (hw _ (List.mem_of_getElem? (i := 21) rfl)) (hw _ (List.mem_of_getElem? (i := 22) rfl)) (hw _ (List.mem_of_getElem? (i := 3) rfl)) (hw _ (List.mem_of_getElem? (i := 23) rfl)) (by decide) (con_4 l Z a0 hw b4 t b1 2 (2 : Int32) (((i1.toInt8.toInt32)).toInt8.toInt32) (fun q => .int ((upd (upd (fun _ => (0 : Int32)) 0 ((i1.toInt8.toInt32)).toInt8.toInt32) 1 ((i2.toInt8.toInt32)).toInt8.toInt32) q)) T5.heap n0 Z5 F5q G5q H5q A_b1_5 (by decide) (fun _ => rfl)) e6 E5q (by rw [hml]; rfl) (hb hby at_146) (lenOf pd_4 rfl) 0 (Nat.le_of_eq rfl) (by decide) (by decide) (by decide) (by decide) ?_
            intro v T7 L7 X7 hQ
            obtain ⟨rfl, e7, rfl⟩ := hQ
            rw [List.append_nil] at X7
            show Ends p e below _ T7 (mkF m 149 #[.val (.int i0), .val (.int i1), .val (.int i2), .val (.int i3), .val (.int i4), .val (.int (0 : Int32)), .val (.ref b1), .val (.int (i4 &&& (3 : Int32))), .val (.int t), .val (.ref b4), .val (.int (0 : Int32)), .val (.int (own_starts (2 : Int32) (((i1.toInt8.toInt32)).toInt8.toInt32) t)), .unset] [(.int (own_starts (2 : Int32) (((i1.toInt8.toInt32)).toInt8.toInt32) t))])
            refine Ends.by (fun _ => XS.istore X7.here hx rfl (hb hby at_149) rfl (l' := #[.val (.int i0), .val (.int i1), .val (.int i2), .val (.int i3), .val (.int i4), .val (.int (0 : Int32)), .val (.ref b1), .val (.int (i4 &&& (3 : Int32))), .val (.int t), .val (.ref b4), .val (.int (0 : Int32)), .val (.int (own_starts (2 : Int32) (((i1.toInt8.toInt32)).toInt8.toInt32) t)), .val (.int (own_starts (2 : Int32) (((i1.toInt8.toInt32)).toInt8.toInt32) t))]) rfl) ?_
            show Ends p e below _ T7 (mkF m 151 #[.val (.int i0), .val (.int i1), .val (.int i2), .val (.int i3), .val (.int i4), .val (.int (0 : Int32)), .val (.ref b1), .val (.int (i4 &&& (3 : Int32))), .val (.int t), .val (.ref b4), .val (.int (0 : Int32)), .val (.int (own_starts (2 : Int32) (((i1.toInt8.toInt32)).toInt8.toInt32) t)), .val (.int (own_starts (2 : Int32) (((i1.toInt8.toInt32)).toInt8.toInt32) t))] [])
            refine Ends.by (fun _ => XS.iload X7.here hx rfl (hb hby at_151) rfl) ?_
            show Ends p e below _ T7 (mkF m 153 #[.val (.int i0), .val (.int i1), .val (.int i2), .val (.int i3), .val (.int i4), .val (.int (0 : Int32)), .val (.ref b1), .val (.int (i4 &&& (3 : Int32))), .val (.int t), .val (.ref b4), .val (.int (0 : Int32)), .val (.int (own_starts (2 : Int32) (((i1.toInt8.toInt32)).toInt8.toInt32) t)), .val (.int (own_starts (2 : Int32) (((i1.toInt8.toInt32)).toInt8.toInt32) t))] [(.int (own_starts (2 : Int32) (((i1.toInt8.toInt32)).toInt8.toInt32) t))])
            refine Ends.by (fun _ => XS.iload X7.here hx rfl (hb hby at_153) rfl) ?_
            show Ends p e below _ T7 (mkF m 155 #[.val (.int i0), .val (.int i1), .val (.int i2), .val (.int i3), .val (.int i4), .val (.int (0 : Int32)), .val (.ref b1), .val (.int (i4 &&& (3 : Int32))), .val (.int t), .val (.ref b4), .val (.int (0 : Int32)), .val (.int (own_starts (2 : Int32) (((i1.toInt8.toInt32)).toInt8.toInt32) t)), .val (.int (own_starts (2 : Int32) (((i1.toInt8.toInt32)).toInt8.toInt32) t))] [(.int (0 : Int32)), (.int (own_starts (2 : Int32) (((i1.toInt8.toInt32)).toInt8.toInt32) t))])
            refine Ends.icmp X7 hx (hb hby at_155) 169 (by decide) (by decide) (fun q => ?_) (fun q => ?_)
            · have c155 : ¬ ((own_starts (2 : Int32) (((i1.toInt8.toInt32)).toInt8.toInt32) t) = (0 : Int32)) := own_ne.1 q
              exact absurd (own_s2n _ _ c123) c155
            · have c155 : (own_starts (2 : Int32) (((i1.toInt8.toInt32)).toInt8.toInt32) t) = (0 : Int32) := own_ne.2 q
              show Ends p e below _ T7 (mkF m 158 #[.val (.int i0), .val (.int i1), .val (.int i2), .val (.int i3), .val (.int i4), .val (.int (0 : Int32)), .val (.ref b1), .val (.int (i4 &&& (3 : Int32))), .val (.int t), .val (.ref b4), .val (.int (0 : Int32)), .val (.int (own_starts (2 : Int32) (((i1.toInt8.toInt32)).toInt8.toInt32) t)), .val (.int (own_starts (2 : Int32) (((i1.toInt8.toInt32)).toInt8.toInt32) t))] [])
              refine Ends.by (fun _ => XS.iload X7.here hx rfl (hb hby at_158) rfl) ?_
              show Ends p e below _ T7 (mkF m 160 #[.val (.int i0), .val (.int i1), .val (.int i2), .val (.int i3), .val (.int i4), .val (.int (0 : Int32)), .val (.ref b1), .val (.int (i4 &&& (3 : Int32))), .val (.int t), .val (.ref b4), .val (.int (0 : Int32)), .val (.int (own_starts (2 : Int32) (((i1.toInt8.toInt32)).toInt8.toInt32) t)), .val (.int (own_starts (2 : Int32) (((i1.toInt8.toInt32)).toInt8.toInt32) t))] [(.int (own_starts (2 : Int32) (((i1.toInt8.toInt32)).toInt8.toInt32) t))])
              refine Ends.by (fun _ => XS.iload X7.here hx rfl (hb hby at_160) rfl) ?_
              show Ends p e below _ T7 (mkF m 162 #[.val (.int i0), .val (.int i1), .val (.int i2), .val (.int i3), .val (.int i4), .val (.int (0 : Int32)), .val (.ref b1), .val (.int (i4 &&& (3 : Int32))), .val (.int t), .val (.ref b4), .val (.int (0 : Int32)), .val (.int (own_starts (2 : Int32) (((i1.toInt8.toInt32)).toInt8.toInt32) t)), .val (.int (own_starts (2 : Int32) (((i1.toInt8.toInt32)).toInt8.toInt32) t))] [(.int (0 : Int32)), (.int (own_starts (2 : Int32) (((i1.toInt8.toInt32)).toInt8.toInt32) t))])
              refine Ends.icmp X7 hx (hb hby at_162) 169 (by decide) (by decide) (fun q => ?_) (fun q => ?_)
              · have c162 : ¬ ((own_starts (2 : Int32) (((i1.toInt8.toInt32)).toInt8.toInt32) t) = (0 : Int32)) := own_ne.1 q
                exact absurd (own_s2n _ _ c123) c162
              · have c162 : (own_starts (2 : Int32) (((i1.toInt8.toInt32)).toInt8.toInt32) t) = (0 : Int32) := own_ne.2 q
                show Ends p e below _ T7 (mkF m 165 #[.val (.int i0), .val (.int i1), .val (.int i2), .val (.int i3), .val (.int i4), .val (.int (0 : Int32)), .val (.ref b1), .val (.int (i4 &&& (3 : Int32))), .val (.int t), .val (.ref b4), .val (.int (0 : Int32)), .val (.int (own_starts (2 : Int32) (((i1.toInt8.toInt32)).toInt8.toInt32) t)), .val (.int (own_starts (2 : Int32) (((i1.toInt8.toInt32)).toInt8.toInt32) t))] [])
                refine Ends.by (fun _ => XS.iconst X7.here hx rfl (hb hby at_165)) ?_
                show Ends p e below _ T7 (mkF m 166 #[.val (.int i0), .val (.int i1), .val (.int i2), .val (.int i3), .val (.int i4), .val (.int (0 : Int32)), .val (.ref b1), .val (.int (i4 &&& (3 : Int32))), .val (.int t), .val (.ref b4), .val (.int (0 : Int32)), .val (.int (own_starts (2 : Int32) (((i1.toInt8.toInt32)).toInt8.toInt32) t)), .val (.int (own_starts (2 : Int32) (((i1.toInt8.toInt32)).toInt8.toInt32) t))] [(.int (1 : Int32))])
                refine Ends.by (fun _ => XS.goto X7.here hx rfl (pc0 := 166) (pc' := 170) rfl (hb hby at_166) (by decide) (by decide)) ?_
                show Ends p e below _ T7 (mkF m 170 #[.val (.int i0), .val (.int i1), .val (.int i2), .val (.int i3), .val (.int i4), .val (.int (0 : Int32)), .val (.ref b1), .val (.int (i4 &&& (3 : Int32))), .val (.int t), .val (.ref b4), .val (.int (0 : Int32)), .val (.int (own_starts (2 : Int32) (((i1.toInt8.toInt32)).toInt8.toInt32) t)), .val (.int (own_starts (2 : Int32) (((i1.toInt8.toInt32)).toInt8.toInt32) t))] [(.int (1 : Int32))])
                exact Ends.retZ X7 hx hlk hret (hb hby at_170) (by first | decide | (simp; done)) (by decide) (by decide) (⟨rfl, N5⟩)
          · have c123 : t = (i1 &&& (255 : Int32)) := own_ne.2 q
            show Ends p e below _ T5 (mkF m 126 #[.val (.int i0), .val (.int i1), .val (.int i2), .val (.int i3), .val (.int i4), .val (.int (0 : Int32)), .val (.ref b1), .val (.int (i4 &&& (3 : Int32))), .val (.int t), .val (.ref b4), .unset, .unset, .unset] [])
            refine Ends.by (fun _ => XS.iconst X5.here hx rfl (hb hby at_126)) ?_
            show Ends p e below _ T5 (mkF m 127 #[.val (.int i0), .val (.int i1), .val (.int i2), .val (.int i3), .val (.int i4), .val (.int (0 : Int32)), .val (.ref b1), .val (.int (i4 &&& (3 : Int32))), .val (.int t), .val (.ref b4), .unset, .unset, .unset] [(.int (1 : Int32))])
            refine Ends.by (fun _ => XS.goto X5.here hx rfl (pc0 := 127) (pc' := 131) rfl (hb hby at_127) (by decide) (by decide)) ?_
            show Ends p e below _ T5 (mkF m 131 #[.val (.int i0), .val (.int i1), .val (.int i2), .val (.int i3), .val (.int i4), .val (.int (0 : Int32)), .val (.ref b1), .val (.int (i4 &&& (3 : Int32))), .val (.int t), .val (.ref b4), .unset, .unset, .unset] [(.int (1 : Int32))])
            refine Ends.by (fun _ => XS.istore X5.here hx rfl (hb hby at_131) rfl (l' := #[.val (.int i0), .val (.int i1), .val (.int i2), .val (.int i3), .val (.int i4), .val (.int (0 : Int32)), .val (.ref b1), .val (.int (i4 &&& (3 : Int32))), .val (.int t), .val (.ref b4), .val (.int (1 : Int32)), .unset, .unset]) rfl) ?_
            show Ends p e below _ T5 (mkF m 133 #[.val (.int i0), .val (.int i1), .val (.int i2), .val (.int i3), .val (.int i4), .val (.int (0 : Int32)), .val (.ref b1), .val (.int (i4 &&& (3 : Int32))), .val (.int t), .val (.ref b4), .val (.int (1 : Int32)), .unset, .unset] [])
            refine Ends.by (fun _ => XS.aload X5.here hx rfl (hb hby at_133) rfl rfl) ?_
            show Ends p e below _ T5 (mkF m 135 #[.val (.int i0), .val (.int i1), .val (.int i2), .val (.int i3), .val (.int i4), .val (.int (0 : Int32)), .val (.ref b1), .val (.int (i4 &&& (3 : Int32))), .val (.int t), .val (.ref b4), .val (.int (1 : Int32)), .unset, .unset] [(.ref b4)])
            refine Ends.by (fun _ => XS.iload X5.here hx rfl (hb hby at_135) rfl) ?_
            show Ends p e below _ T5 (mkF m 137 #[.val (.int i0), .val (.int i1), .val (.int i2), .val (.int i3), .val (.int i4), .val (.int (0 : Int32)), .val (.ref b1), .val (.int (i4 &&& (3 : Int32))), .val (.int t), .val (.ref b4), .val (.int (1 : Int32)), .unset, .unset] [(.int t), (.ref b4)])
            refine Ends.callV (a := b4) (argsL := [(.int t)]) (rest := []) X5 hx hZ hown (hw _ (List.mem_of_getElem? (i := 19) rfl)) (hw _ (List.mem_of_getElem? (i := 20) rfl)) (hw _ (List.mem_of_getElem? (i := 21) rfl)) (hw _ (List.mem_of_getElem? (i := 22) rfl)) (hw _ (List.mem_of_getElem? (i := 3) rfl)) (hw _ (List.mem_of_getElem? (i := 23) rfl)) (by decide) (con_4 l Z a0 hw b4 t b1 2 (2 : Int32) (((i1.toInt8.toInt32)).toInt8.toInt32) (fun q => .int ((upd (upd (fun _ => (0 : Int32)) 0 ((i1.toInt8.toInt32)).toInt8.toInt32) 1 ((i2.toInt8.toInt32)).toInt8.toInt32) q)) T5.heap n0 Z5 F5q G5q H5q A_b1_5 (by decide) (fun _ => rfl)) rfl E5q (by rw [hml]; rfl) (hb hby at_137) (lenOf pd_4 rfl) 0 (Nat.le_of_eq rfl) (by decide) (by decide) (by decide) (by decide) ?_
            intro v T8 L8 X8 hQ
            obtain ⟨rfl, e8, rfl⟩ := hQ
            rw [List.append_nil] at X8
            show Ends p e below _ T8 (mkF m 140 #[.val (.int i0), .val (.int i1), .val (.int i2), .val (.int i3), .val (.int i4), .val (.int (0 : Int32)), .val (.ref b1), .val (.int (i4 &&& (3 : Int32))), .val (.int t), .val (.ref b4), .val (.int (1 : Int32)), .unset, .unset] [(.int (own_starts (2 : Int32) (((i1.toInt8.toInt32)).toInt8.toInt32) t))])
            refine Ends.by (fun _ => XS.istore X8.here hx rfl (hb hby at_140) rfl (l' := #[.val (.int i0), .val (.int i1), .val (.int i2), .val (.int i3), .val (.int i4), .val (.int (0 : Int32)), .val (.ref b1), .val (.int (i4 &&& (3 : Int32))), .val (.int t), .val (.ref b4), .val (.int (1 : Int32)), .val (.int (own_starts (2 : Int32) (((i1.toInt8.toInt32)).toInt8.toInt32) t)), .unset]) rfl) ?_
            show Ends p e below _ T8 (mkF m 142 #[.val (.int i0), .val (.int i1), .val (.int i2), .val (.int i3), .val (.int i4), .val (.int (0 : Int32)), .val (.ref b1), .val (.int (i4 &&& (3 : Int32))), .val (.int t), .val (.ref b4), .val (.int (1 : Int32)), .val (.int (own_starts (2 : Int32) (((i1.toInt8.toInt32)).toInt8.toInt32) t)), .unset] [])
            refine Ends.by (fun _ => XS.aload X8.here hx rfl (hb hby at_142) rfl rfl) ?_
            show Ends p e below _ T8 (mkF m 144 #[.val (.int i0), .val (.int i1), .val (.int i2), .val (.int i3), .val (.int i4), .val (.int (0 : Int32)), .val (.ref b1), .val (.int (i4 &&& (3 : Int32))), .val (.int t), .val (.ref b4), .val (.int (1 : Int32)), .val (.int (own_starts (2 : Int32) (((i1.toInt8.toInt32)).toInt8.toInt32) t)), .unset] [(.ref b4)])
            refine Ends.by (fun _ => XS.iload X8.here hx rfl (hb hby at_144) rfl) ?_
            show Ends p e below _ T8 (mkF m 146 #[.val (.int i0), .val (.int i1), .val (.int i2), .val (.int i3), .val (.int i4), .val (.int (0 : Int32)), .val (.ref b1), .val (.int (i4 &&& (3 : Int32))), .val (.int t), .val (.ref b4), .val (.int (1 : Int32)), .val (.int (own_starts (2 : Int32) (((i1.toInt8.toInt32)).toInt8.toInt32) t)), .unset] [(.int t), (.ref b4)])
            refine Ends.callV (a := b4) (argsL := [(.int t)]) (rest := []) X8 hx hZ hown (hw _ (List.mem_of_getElem? (i := 19) rfl)) (hw _ (List.mem_of_getElem? (i := 20) rfl)) (hw _ (List.mem_of_getElem? (i := 21) rfl)) (hw _ (List.mem_of_getElem? (i := 22) rfl)) (hw _ (List.mem_of_getElem? (i := 3) rfl)) (hw _ (List.mem_of_getElem? (i := 23) rfl)) (by decide) (con_4 l Z a0 hw b4 t b1 2 (2 : Int32) (((i1.toInt8.toInt32)).toInt8.toInt32) (fun q => .int ((upd (upd (fun _ => (0 : Int32)) 0 ((i1.toInt8.toInt32)).toInt8.toInt32) 1 ((i2.toInt8.toInt32)).toInt8.toInt32) q)) T5.heap n0 Z5 F5q G5q H5q A_b1_5 (by decide) (fun _ => rfl)) e8 E5q (by rw [hml]; rfl) (hb hby at_146) (lenOf pd_4 rfl) 0 (Nat.le_of_eq rfl) (by decide) (by decide) (by decide) (by decide) ?_
            intro v T9 L9 X9 hQ
            obtain ⟨rfl, e9, rfl⟩ := hQ
            rw [List.append_nil] at X9
            show Ends p e below _ T9 (mkF m 149 #[.val (.int i0), .val (.int i1), .val (.int i2), .val (.int i3), .val (.int i4), .val (.int (0 : Int32)), .val (.ref b1), .val (.int (i4 &&& (3 : Int32))), .val (.int t), .val (.ref b4), .val (.int (1 : Int32)), .val (.int (own_starts (2 : Int32) (((i1.toInt8.toInt32)).toInt8.toInt32) t)), .unset] [(.int (own_starts (2 : Int32) (((i1.toInt8.toInt32)).toInt8.toInt32) t))])
            refine Ends.by (fun _ => XS.istore X9.here hx rfl (hb hby at_149) rfl (l' := #[.val (.int i0), .val (.int i1), .val (.int i2), .val (.int i3), .val (.int i4), .val (.int (0 : Int32)), .val (.ref b1), .val (.int (i4 &&& (3 : Int32))), .val (.int t), .val (.ref b4), .val (.int (1 : Int32)), .val (.int (own_starts (2 : Int32) (((i1.toInt8.toInt32)).toInt8.toInt32) t)), .val (.int (own_starts (2 : Int32) (((i1.toInt8.toInt32)).toInt8.toInt32) t))]) rfl) ?_
            show Ends p e below _ T9 (mkF m 151 #[.val (.int i0), .val (.int i1), .val (.int i2), .val (.int i3), .val (.int i4), .val (.int (0 : Int32)), .val (.ref b1), .val (.int (i4 &&& (3 : Int32))), .val (.int t), .val (.ref b4), .val (.int (1 : Int32)), .val (.int (own_starts (2 : Int32) (((i1.toInt8.toInt32)).toInt8.toInt32) t)), .val (.int (own_starts (2 : Int32) (((i1.toInt8.toInt32)).toInt8.toInt32) t))] [])
            refine Ends.by (fun _ => XS.iload X9.here hx rfl (hb hby at_151) rfl) ?_
            show Ends p e below _ T9 (mkF m 153 #[.val (.int i0), .val (.int i1), .val (.int i2), .val (.int i3), .val (.int i4), .val (.int (0 : Int32)), .val (.ref b1), .val (.int (i4 &&& (3 : Int32))), .val (.int t), .val (.ref b4), .val (.int (1 : Int32)), .val (.int (own_starts (2 : Int32) (((i1.toInt8.toInt32)).toInt8.toInt32) t)), .val (.int (own_starts (2 : Int32) (((i1.toInt8.toInt32)).toInt8.toInt32) t))] [(.int (own_starts (2 : Int32) (((i1.toInt8.toInt32)).toInt8.toInt32) t))])
            refine Ends.by (fun _ => XS.iload X9.here hx rfl (hb hby at_153) rfl) ?_
            show Ends p e below _ T9 (mkF m 155 #[.val (.int i0), .val (.int i1), .val (.int i2), .val (.int i3), .val (.int i4), .val (.int (0 : Int32)), .val (.ref b1), .val (.int (i4 &&& (3 : Int32))), .val (.int t), .val (.ref b4), .val (.int (1 : Int32)), .val (.int (own_starts (2 : Int32) (((i1.toInt8.toInt32)).toInt8.toInt32) t)), .val (.int (own_starts (2 : Int32) (((i1.toInt8.toInt32)).toInt8.toInt32) t))] [(.int (1 : Int32)), (.int (own_starts (2 : Int32) (((i1.toInt8.toInt32)).toInt8.toInt32) t))])
            refine Ends.icmp X9 hx (hb hby at_155) 169 (by decide) (by decide) (fun q => ?_) (fun q => ?_)
            · have c155 : ¬ ((own_starts (2 : Int32) (((i1.toInt8.toInt32)).toInt8.toInt32) t) = (1 : Int32)) := own_ne.1 q
              exact absurd (own_s2y _ _ c123) c155
            · have c155 : (own_starts (2 : Int32) (((i1.toInt8.toInt32)).toInt8.toInt32) t) = (1 : Int32) := own_ne.2 q
              show Ends p e below _ T9 (mkF m 158 #[.val (.int i0), .val (.int i1), .val (.int i2), .val (.int i3), .val (.int i4), .val (.int (0 : Int32)), .val (.ref b1), .val (.int (i4 &&& (3 : Int32))), .val (.int t), .val (.ref b4), .val (.int (1 : Int32)), .val (.int (own_starts (2 : Int32) (((i1.toInt8.toInt32)).toInt8.toInt32) t)), .val (.int (own_starts (2 : Int32) (((i1.toInt8.toInt32)).toInt8.toInt32) t))] [])
              refine Ends.by (fun _ => XS.iload X9.here hx rfl (hb hby at_158) rfl) ?_
              show Ends p e below _ T9 (mkF m 160 #[.val (.int i0), .val (.int i1), .val (.int i2), .val (.int i3), .val (.int i4), .val (.int (0 : Int32)), .val (.ref b1), .val (.int (i4 &&& (3 : Int32))), .val (.int t), .val (.ref b4), .val (.int (1 : Int32)), .val (.int (own_starts (2 : Int32) (((i1.toInt8.toInt32)).toInt8.toInt32) t)), .val (.int (own_starts (2 : Int32) (((i1.toInt8.toInt32)).toInt8.toInt32) t))] [(.int (own_starts (2 : Int32) (((i1.toInt8.toInt32)).toInt8.toInt32) t))])
              refine Ends.by (fun _ => XS.iload X9.here hx rfl (hb hby at_160) rfl) ?_
              show Ends p e below _ T9 (mkF m 162 #[.val (.int i0), .val (.int i1), .val (.int i2), .val (.int i3), .val (.int i4), .val (.int (0 : Int32)), .val (.ref b1), .val (.int (i4 &&& (3 : Int32))), .val (.int t), .val (.ref b4), .val (.int (1 : Int32)), .val (.int (own_starts (2 : Int32) (((i1.toInt8.toInt32)).toInt8.toInt32) t)), .val (.int (own_starts (2 : Int32) (((i1.toInt8.toInt32)).toInt8.toInt32) t))] [(.int (1 : Int32)), (.int (own_starts (2 : Int32) (((i1.toInt8.toInt32)).toInt8.toInt32) t))])
              refine Ends.icmp X9 hx (hb hby at_162) 169 (by decide) (by decide) (fun q => ?_) (fun q => ?_)
              · have c162 : ¬ ((own_starts (2 : Int32) (((i1.toInt8.toInt32)).toInt8.toInt32) t) = (1 : Int32)) := own_ne.1 q
                exact absurd (own_s2y _ _ c123) c162
              · have c162 : (own_starts (2 : Int32) (((i1.toInt8.toInt32)).toInt8.toInt32) t) = (1 : Int32) := own_ne.2 q
                show Ends p e below _ T9 (mkF m 165 #[.val (.int i0), .val (.int i1), .val (.int i2), .val (.int i3), .val (.int i4), .val (.int (0 : Int32)), .val (.ref b1), .val (.int (i4 &&& (3 : Int32))), .val (.int t), .val (.ref b4), .val (.int (1 : Int32)), .val (.int (own_starts (2 : Int32) (((i1.toInt8.toInt32)).toInt8.toInt32) t)), .val (.int (own_starts (2 : Int32) (((i1.toInt8.toInt32)).toInt8.toInt32) t))] [])
                refine Ends.by (fun _ => XS.iconst X9.here hx rfl (hb hby at_165)) ?_
                show Ends p e below _ T9 (mkF m 166 #[.val (.int i0), .val (.int i1), .val (.int i2), .val (.int i3), .val (.int i4), .val (.int (0 : Int32)), .val (.ref b1), .val (.int (i4 &&& (3 : Int32))), .val (.int t), .val (.ref b4), .val (.int (1 : Int32)), .val (.int (own_starts (2 : Int32) (((i1.toInt8.toInt32)).toInt8.toInt32) t)), .val (.int (own_starts (2 : Int32) (((i1.toInt8.toInt32)).toInt8.toInt32) t))] [(.int (1 : Int32))])
                refine Ends.by (fun _ => XS.goto X9.here hx rfl (pc0 := 166) (pc' := 170) rfl (hb hby at_166) (by decide) (by decide)) ?_
                show Ends p e below _ T9 (mkF m 170 #[.val (.int i0), .val (.int i1), .val (.int i2), .val (.int i3), .val (.int i4), .val (.int (0 : Int32)), .val (.ref b1), .val (.int (i4 &&& (3 : Int32))), .val (.int t), .val (.ref b4), .val (.int (1 : Int32)), .val (.int (own_starts (2 : Int32) (((i1.toInt8.toInt32)).toInt8.toInt32) t)), .val (.int (own_starts (2 : Int32) (((i1.toInt8.toInt32)).toInt8.toInt32) t))] [(.int (1 : Int32))])
                exact Ends.retZ X9 hx hlk hret (hb hby at_170) (by first | decide | (simp; done)) (by decide) (by decide) (⟨rfl, N5⟩)
      refine Ends.by (fun _ => XS.iload X3.here hx rfl (hb hby at_47) rfl) ?_
      show Ends p e below _ T3 (mkF m 49 #[.val (.int i0), .val (.int i1), .val (.int i2), .val (.int i3), .val (.int i4), .val (.int (0 : Int32)), .val (.ref b1), .val (.int (i4 &&& (3 : Int32))), .unset, .unset, .unset, .unset, .unset] [(.int (i4 &&& (3 : Int32)))])
      refine Ends.ifc X3 hx (hb hby at_49) 58 (by decide) (by decide) (fun q => ?_) (fun q => ?_)
      · have c49 : ¬ ((i4 &&& (3 : Int32)) = (0 : Int32)) := own_ne.1 q
        show Ends p e below _ T3 (mkF m 58 #[.val (.int i0), .val (.int i1), .val (.int i2), .val (.int i3), .val (.int i4), .val (.int (0 : Int32)), .val (.ref b1), .val (.int (i4 &&& (3 : Int32))), .unset, .unset, .unset, .unset, .unset] [])
        refine Ends.by (fun _ => XS.iload X3.here hx rfl (hb hby at_58) rfl) ?_
        show Ends p e below _ T3 (mkF m 60 #[.val (.int i0), .val (.int i1), .val (.int i2), .val (.int i3), .val (.int i4), .val (.int (0 : Int32)), .val (.ref b1), .val (.int (i4 &&& (3 : Int32))), .unset, .unset, .unset, .unset, .unset] [(.int (i4 &&& (3 : Int32)))])
        refine Ends.by (fun _ => XS.iconst X3.here hx rfl (hb hby at_60)) ?_
        show Ends p e below _ T3 (mkF m 61 #[.val (.int i0), .val (.int i1), .val (.int i2), .val (.int i3), .val (.int i4), .val (.int (0 : Int32)), .val (.ref b1), .val (.int (i4 &&& (3 : Int32))), .unset, .unset, .unset, .unset, .unset] [(.int (1 : Int32)), (.int (i4 &&& (3 : Int32)))])
        refine Ends.icmp X3 hx (hb hby at_61) 74 (by decide) (by decide) (fun q => ?_) (fun q => ?_)
        · have c61 : ¬ ((i4 &&& (3 : Int32)) = (1 : Int32)) := own_ne.1 q
          show Ends p e below _ T3 (mkF m 74 #[.val (.int i0), .val (.int i1), .val (.int i2), .val (.int i3), .val (.int i4), .val (.int (0 : Int32)), .val (.ref b1), .val (.int (i4 &&& (3 : Int32))), .unset, .unset, .unset, .unset, .unset] [])
          refine Ends.by (fun _ => XS.iload X3.here hx rfl (hb hby at_74) rfl) ?_
          show Ends p e below _ T3 (mkF m 76 #[.val (.int i0), .val (.int i1), .val (.int i2), .val (.int i3), .val (.int i4), .val (.int (0 : Int32)), .val (.ref b1), .val (.int (i4 &&& (3 : Int32))), .unset, .unset, .unset, .unset, .unset] [(.int (i4 &&& (3 : Int32)))])
          refine Ends.by (fun _ => XS.iconst X3.here hx rfl (hb hby at_76)) ?_
          show Ends p e below _ T3 (mkF m 77 #[.val (.int i0), .val (.int i1), .val (.int i2), .val (.int i3), .val (.int i4), .val (.int (0 : Int32)), .val (.ref b1), .val (.int (i4 &&& (3 : Int32))), .unset, .unset, .unset, .unset, .unset] [(.int (2 : Int32)), (.int (i4 &&& (3 : Int32)))])
          refine Ends.icmp X3 hx (hb hby at_77) 87 (by decide) (by decide) (fun q => ?_) (fun q => ?_)
          · have c77 : ¬ ((i4 &&& (3 : Int32)) = (2 : Int32)) := own_ne.1 q
            show Ends p e below _ T3 (mkF m 87 #[.val (.int i0), .val (.int i1), .val (.int i2), .val (.int i3), .val (.int i4), .val (.int (0 : Int32)), .val (.ref b1), .val (.int (i4 &&& (3 : Int32))), .unset, .unset, .unset, .unset, .unset] [])
            refine Ends.by (fun _ => XS.iloadN X3.here hx rfl (hb hby at_87) rfl) ?_
            show Ends p e below _ T3 (mkF m 88 #[.val (.int i0), .val (.int i1), .val (.int i2), .val (.int i3), .val (.int i4), .val (.int (0 : Int32)), .val (.ref b1), .val (.int (i4 &&& (3 : Int32))), .unset, .unset, .unset, .unset, .unset] [(.int i1)])
            refine Ends.by (fun _ => XS.sipush X3.here hx rfl (hb hby at_88)) ?_
            show Ends p e below _ T3 (mkF m 91 #[.val (.int i0), .val (.int i1), .val (.int i2), .val (.int i3), .val (.int i4), .val (.int (0 : Int32)), .val (.ref b1), .val (.int (i4 &&& (3 : Int32))), .unset, .unset, .unset, .unset, .unset] [(.int (255 : Int32)), (.int i1)])
            refine Ends.by (fun _ => XS.iand X3.here hx rfl (hb hby at_91) rfl) ?_
            show Ends p e below _ T3 (mkF m 92 #[.val (.int i0), .val (.int i1), .val (.int i2), .val (.int i3), .val (.int i4), .val (.int (0 : Int32)), .val (.ref b1), .val (.int (i4 &&& (3 : Int32))), .unset, .unset, .unset, .unset, .unset] [(.int (i1 &&& (255 : Int32)))])
            refine Ends.by (fun _ => XS.iloadN X3.here hx rfl (hb hby at_92) rfl) ?_
            show Ends p e below _ T3 (mkF m 93 #[.val (.int i0), .val (.int i1), .val (.int i2), .val (.int i3), .val (.int i4), .val (.int (0 : Int32)), .val (.ref b1), .val (.int (i4 &&& (3 : Int32))), .unset, .unset, .unset, .unset, .unset] [(.int i3), (.int (i1 &&& (255 : Int32)))])
            refine Ends.by (fun _ => XS.sipush X3.here hx rfl (hb hby at_93)) ?_
            show Ends p e below _ T3 (mkF m 96 #[.val (.int i0), .val (.int i1), .val (.int i2), .val (.int i3), .val (.int i4), .val (.int (0 : Int32)), .val (.ref b1), .val (.int (i4 &&& (3 : Int32))), .unset, .unset, .unset, .unset, .unset] [(.int (-256 : Int32)), (.int i3), (.int (i1 &&& (255 : Int32)))])
            refine Ends.by (fun _ => XS.iand X3.here hx rfl (hb hby at_96) rfl) ?_
            show Ends p e below _ T3 (mkF m 97 #[.val (.int i0), .val (.int i1), .val (.int i2), .val (.int i3), .val (.int i4), .val (.int (0 : Int32)), .val (.ref b1), .val (.int (i4 &&& (3 : Int32))), .unset, .unset, .unset, .unset, .unset] [(.int (i3 &&& (-256 : Int32))), (.int (i1 &&& (255 : Int32)))])
            refine Ends.by (fun _ => XS.ixor X3.here hx rfl (hb hby at_97) rfl) ?_
            show Ends p e below _ T3 (mkF m 98 #[.val (.int i0), .val (.int i1), .val (.int i2), .val (.int i3), .val (.int i4), .val (.int (0 : Int32)), .val (.ref b1), .val (.int (i4 &&& (3 : Int32))), .unset, .unset, .unset, .unset, .unset] [(.int ((i1 &&& (255 : Int32)) ^^^ (i3 &&& (-256 : Int32))))])
            refine Ends.by (fun _ => XS.istore X3.here hx rfl (hb hby at_98) rfl (l' := #[.val (.int i0), .val (.int i1), .val (.int i2), .val (.int i3), .val (.int i4), .val (.int (0 : Int32)), .val (.ref b1), .val (.int (i4 &&& (3 : Int32))), .val (.int ((i1 &&& (255 : Int32)) ^^^ (i3 &&& (-256 : Int32)))), .unset, .unset, .unset, .unset]) rfl) ?_
            show Ends p e below _ T3 (mkF m 100 #[.val (.int i0), .val (.int i1), .val (.int i2), .val (.int i3), .val (.int i4), .val (.int (0 : Int32)), .val (.ref b1), .val (.int (i4 &&& (3 : Int32))), .val (.int ((i1 &&& (255 : Int32)) ^^^ (i3 &&& (-256 : Int32)))), .unset, .unset, .unset, .unset] [])
            exact J _
          · have c77 : (i4 &&& (3 : Int32)) = (2 : Int32) := own_ne.2 q
            show Ends p e below _ T3 (mkF m 80 #[.val (.int i0), .val (.int i1), .val (.int i2), .val (.int i3), .val (.int i4), .val (.int (0 : Int32)), .val (.ref b1), .val (.int (i4 &&& (3 : Int32))), .unset, .unset, .unset, .unset, .unset] [])
            refine Ends.by (fun _ => XS.iloadN X3.here hx rfl (hb hby at_80) rfl) ?_
            show Ends p e below _ T3 (mkF m 81 #[.val (.int i0), .val (.int i1), .val (.int i2), .val (.int i3), .val (.int i4), .val (.int (0 : Int32)), .val (.ref b1), .val (.int (i4 &&& (3 : Int32))), .unset, .unset, .unset, .unset, .unset] [(.int i1)])
            refine Ends.by (fun _ => XS.i2b X3.here hx rfl (hb hby at_81) rfl) ?_
            show Ends p e below _ T3 (mkF m 82 #[.val (.int i0), .val (.int i1), .val (.int i2), .val (.int i3), .val (.int i4), .val (.int (0 : Int32)), .val (.ref b1), .val (.int (i4 &&& (3 : Int32))), .unset, .unset, .unset, .unset, .unset] [(.int (i1.toInt8.toInt32))])
            refine Ends.by (fun _ => XS.istore X3.here hx rfl (hb hby at_82) rfl (l' := #[.val (.int i0), .val (.int i1), .val (.int i2), .val (.int i3), .val (.int i4), .val (.int (0 : Int32)), .val (.ref b1), .val (.int (i4 &&& (3 : Int32))), .val (.int (i1.toInt8.toInt32)), .unset, .unset, .unset, .unset]) rfl) ?_
            show Ends p e below _ T3 (mkF m 84 #[.val (.int i0), .val (.int i1), .val (.int i2), .val (.int i3), .val (.int i4), .val (.int (0 : Int32)), .val (.ref b1), .val (.int (i4 &&& (3 : Int32))), .val (.int (i1.toInt8.toInt32)), .unset, .unset, .unset, .unset] [])
            refine Ends.by (fun _ => XS.goto X3.here hx rfl (pc0 := 84) (pc' := 100) rfl (hb hby at_84) (by decide) (by decide)) ?_
            show Ends p e below _ T3 (mkF m 100 #[.val (.int i0), .val (.int i1), .val (.int i2), .val (.int i3), .val (.int i4), .val (.int (0 : Int32)), .val (.ref b1), .val (.int (i4 &&& (3 : Int32))), .val (.int (i1.toInt8.toInt32)), .unset, .unset, .unset, .unset] [])
            exact J _
        · have c61 : (i4 &&& (3 : Int32)) = (1 : Int32) := own_ne.2 q
          show Ends p e below _ T3 (mkF m 64 #[.val (.int i0), .val (.int i1), .val (.int i2), .val (.int i3), .val (.int i4), .val (.int (0 : Int32)), .val (.ref b1), .val (.int (i4 &&& (3 : Int32))), .unset, .unset, .unset, .unset, .unset] [])
          refine Ends.by (fun _ => XS.iloadN X3.here hx rfl (hb hby at_64) rfl) ?_
          show Ends p e below _ T3 (mkF m 65 #[.val (.int i0), .val (.int i1), .val (.int i2), .val (.int i3), .val (.int i4), .val (.int (0 : Int32)), .val (.ref b1), .val (.int (i4 &&& (3 : Int32))), .unset, .unset, .unset, .unset, .unset] [(.int i1)])
          refine Ends.by (fun _ => XS.sipush X3.here hx rfl (hb hby at_65)) ?_
          show Ends p e below _ T3 (mkF m 68 #[.val (.int i0), .val (.int i1), .val (.int i2), .val (.int i3), .val (.int i4), .val (.int (0 : Int32)), .val (.ref b1), .val (.int (i4 &&& (3 : Int32))), .unset, .unset, .unset, .unset, .unset] [(.int (255 : Int32)), (.int i1)])
          refine Ends.by (fun _ => XS.iand X3.here hx rfl (hb hby at_68) rfl) ?_
          show Ends p e below _ T3 (mkF m 69 #[.val (.int i0), .val (.int i1), .val (.int i2), .val (.int i3), .val (.int i4), .val (.int (0 : Int32)), .val (.ref b1), .val (.int (i4 &&& (3 : Int32))), .unset, .unset, .unset, .unset, .unset] [(.int (i1 &&& (255 : Int32)))])
          refine Ends.by (fun _ => XS.istore X3.here hx rfl (hb hby at_69) rfl (l' := #[.val (.int i0), .val (.int i1), .val (.int i2), .val (.int i3), .val (.int i4), .val (.int (0 : Int32)), .val (.ref b1), .val (.int (i4 &&& (3 : Int32))), .val (.int (i1 &&& (255 : Int32))), .unset, .unset, .unset, .unset]) rfl) ?_
          show Ends p e below _ T3 (mkF m 71 #[.val (.int i0), .val (.int i1), .val (.int i2), .val (.int i3), .val (.int i4), .val (.int (0 : Int32)), .val (.ref b1), .val (.int (i4 &&& (3 : Int32))), .val (.int (i1 &&& (255 : Int32))), .unset, .unset, .unset, .unset] [])
          refine Ends.by (fun _ => XS.goto X3.here hx rfl (pc0 := 71) (pc' := 100) rfl (hb hby at_71) (by decide) (by decide)) ?_
          show Ends p e below _ T3 (mkF m 100 #[.val (.int i0), .val (.int i1), .val (.int i2), .val (.int i3), .val (.int i4), .val (.int (0 : Int32)), .val (.ref b1), .val (.int (i4 &&& (3 : Int32))), .val (.int (i1 &&& (255 : Int32))), .unset, .unset, .unset, .unset] [])
          exact J _
      · have c49 : (i4 &&& (3 : Int32)) = (0 : Int32) := own_ne.2 q
        show Ends p e below _ T3 (mkF m 52 #[.val (.int i0), .val (.int i1), .val (.int i2), .val (.int i3), .val (.int i4), .val (.int (0 : Int32)), .val (.ref b1), .val (.int (i4 &&& (3 : Int32))), .unset, .unset, .unset, .unset, .unset] [])
        refine Ends.by (fun _ => XS.iloadN X3.here hx rfl (hb hby at_52) rfl) ?_
        show Ends p e below _ T3 (mkF m 53 #[.val (.int i0), .val (.int i1), .val (.int i2), .val (.int i3), .val (.int i4), .val (.int (0 : Int32)), .val (.ref b1), .val (.int (i4 &&& (3 : Int32))), .unset, .unset, .unset, .unset, .unset] [(.int i3)])
        refine Ends.by (fun _ => XS.istore X3.here hx rfl (hb hby at_53) rfl (l' := #[.val (.int i0), .val (.int i1), .val (.int i2), .val (.int i3), .val (.int i4), .val (.int (0 : Int32)), .val (.ref b1), .val (.int (i4 &&& (3 : Int32))), .val (.int i3), .unset, .unset, .unset, .unset]) rfl) ?_
        show Ends p e below _ T3 (mkF m 55 #[.val (.int i0), .val (.int i1), .val (.int i2), .val (.int i3), .val (.int i4), .val (.int (0 : Int32)), .val (.ref b1), .val (.int (i4 &&& (3 : Int32))), .val (.int i3), .unset, .unset, .unset, .unset] [])
        refine Ends.by (fun _ => XS.goto X3.here hx rfl (pc0 := 55) (pc' := 100) rfl (hb hby at_55) (by decide) (by decide)) ?_
        show Ends p e below _ T3 (mkF m 100 #[.val (.int i0), .val (.int i1), .val (.int i2), .val (.int i3), .val (.int i4), .val (.int (0 : Int32)), .val (.ref b1), .val (.int (i4 &&& (3 : Int32))), .val (.int i3), .unset, .unset, .unset, .unset] [])
        exact J _
    · have c15 : ¬ ((0 : Int32) = (0 : Int32)) := own_eq.2 q
      exact absurd c15 (by decide)
  · have c3 : (i0 &&& (1 : Int32)) = (0 : Int32) := own_ne.2 q
    show Ends p e below _ s₁ (mkF m 6 #[.val (.int i0), .val (.int i1), .val (.int i2), .val (.int i3), .val (.int i4), .unset, .unset, .unset, .unset, .unset, .unset, .unset, .unset] [])
    refine Ends.by (fun _ => XS.iconst X0.here hx rfl (hb hby at_6)) ?_
    show Ends p e below _ s₁ (mkF m 7 #[.val (.int i0), .val (.int i1), .val (.int i2), .val (.int i3), .val (.int i4), .unset, .unset, .unset, .unset, .unset, .unset, .unset, .unset] [(.int (1 : Int32))])
    refine Ends.by (fun _ => XS.goto X0.here hx rfl (pc0 := 7) (pc' := 11) rfl (hb hby at_7) (by decide) (by decide)) ?_
    show Ends p e below _ s₁ (mkF m 11 #[.val (.int i0), .val (.int i1), .val (.int i2), .val (.int i3), .val (.int i4), .unset, .unset, .unset, .unset, .unset, .unset, .unset, .unset] [(.int (1 : Int32))])
    refine Ends.by (fun _ => XS.istore X0.here hx rfl (hb hby at_11) rfl (l' := #[.val (.int i0), .val (.int i1), .val (.int i2), .val (.int i3), .val (.int i4), .val (.int (1 : Int32)), .unset, .unset, .unset, .unset, .unset, .unset, .unset]) rfl) ?_
    show Ends p e below _ s₁ (mkF m 13 #[.val (.int i0), .val (.int i1), .val (.int i2), .val (.int i3), .val (.int i4), .val (.int (1 : Int32)), .unset, .unset, .unset, .unset, .unset, .unset, .unset] [])
    refine Ends.by (fun _ => XS.iload X0.here hx rfl (hb hby at_13) rfl) ?_
    show Ends p e below _ s₁ (mkF m 15 #[.val (.int i0), .val (.int i1), .val (.int i2), .val (.int i3), .val (.int i4), .val (.int (1 : Int32)), .unset, .unset, .unset, .unset, .unset, .unset, .unset] [(.int (1 : Int32))])
    refine Ends.ifc X0 hx (hb hby at_15) 26 (by decide) (by decide) (fun q => ?_) (fun q => ?_)
    · have c15 : (1 : Int32) = (0 : Int32) := own_eq.1 q
      exact absurd c15 (by decide)
    · have c15 : ¬ ((1 : Int32) = (0 : Int32)) := own_eq.2 q
      show Ends p e below _ s₁ (mkF m 18 #[.val (.int i0), .val (.int i1), .val (.int i2), .val (.int i3), .val (.int i4), .val (.int (1 : Int32)), .unset, .unset, .unset, .unset, .unset, .unset, .unset] [])
      refine Ends.by (fun _ => XS.iconst X0.here hx rfl (hb hby at_18)) ?_
      show Ends p e below _ s₁ (mkF m 19 #[.val (.int i0), .val (.int i1), .val (.int i2), .val (.int i3), .val (.int i4), .val (.int (1 : Int32)), .unset, .unset, .unset, .unset, .unset, .unset, .unset] [(.int (0 : Int32))])
      refine Ends.newA X0 hx hZ (hw _ (List.mem_of_getElem? (i := 0) rfl)) e0 (n := 0) (by decide) 0 (by decide) (by decide) (by decide) (by decide) rfl (ad := "[B") (by decide) (hb hby at_19) ?_
      intro T10 h10 X10 e10 E10 A10 Q10
      obtain ⟨b10, g10⟩ : ∃ z, z = h0.size := ⟨_, rfl⟩
      rw [← g10] at A10 Q10 ⊢
      have Z10 : n0 ≤ h10.size := Nat.le_trans Z0 E10.1
      have g_b10 : n0 ≤ b10 := Nat.le_trans Z0 (Nat.le_of_eq g10.symm)
      have A_b10 : Af Z h10 b10 .byte 0 (fun q => .int ((fun _ => (0 : Int32)) q)) := A10
      show Ends p e below _ T10 (mkF m 21 #[.val (.int i0), .val (.int i1), .val (.int i2), .val (.int i3), .val (.int i4), .val (.int (1 : Int32)), .unset, .unset, .unset, .unset, .unset, .unset, .unset] [(.ref b10)])
      refine Ends.by (fun _ => XS.astore X10.here hx rfl (hb hby at_21) rfl rfl (l' := #[.val (.int i0), .val (.int i1), .val (.int i2), .val (.int i3), .val (.int i4), .val (.int (1 : Int32)), .val (.ref b10), .unset, .unset, .unset, .unset, .unset, .unset]) rfl) ?_
      show Ends p e below _ T10 (mkF m 23 #[.val (.int i0), .val (.int i1), .val (.int i2), .val (.int i3), .val (.int i4), .val (.int (1 : Int32)), .val (.ref b10), .unset, .unset, .unset, .unset, .unset, .unset] [])
      refine Ends.by (fun _ => XS.goto X10.here hx rfl (pc0 := 23) (pc' := 41) rfl (hb hby at_23) (by decide) (by decide)) ?_
      show Ends p e below _ T10 (mkF m 41 #[.val (.int i0), .val (.int i1), .val (.int i2), .val (.int i3), .val (.int i4), .val (.int (1 : Int32)), .val (.ref b10), .unset, .unset, .unset, .unset, .unset, .unset] [])
      refine Ends.by (fun _ => XS.iload X10.here hx rfl (hb hby at_41) rfl) ?_
      show Ends p e below _ T10 (mkF m 43 #[.val (.int i0), .val (.int i1), .val (.int i2), .val (.int i3), .val (.int i4), .val (.int (1 : Int32)), .val (.ref b10), .unset, .unset, .unset, .unset, .unset, .unset] [(.int i4)])
      refine Ends.by (fun _ => XS.iconst X10.here hx rfl (hb hby at_43)) ?_
      show Ends p e below _ T10 (mkF m 44 #[.val (.int i0), .val (.int i1), .val (.int i2), .val (.int i3), .val (.int i4), .val (.int (1 : Int32)), .val (.ref b10), .unset, .unset, .unset, .unset, .unset, .unset] [(.int (3 : Int32)), (.int i4)])
      refine Ends.by (fun _ => XS.iand X10.here hx rfl (hb hby at_44) rfl) ?_
      show Ends p e below _ T10 (mkF m 45 #[.val (.int i0), .val (.int i1), .val (.int i2), .val (.int i3), .val (.int i4), .val (.int (1 : Int32)), .val (.ref b10), .unset, .unset, .unset, .unset, .unset, .unset] [(.int (i4 &&& (3 : Int32)))])
      refine Ends.by (fun _ => XS.istore X10.here hx rfl (hb hby at_45) rfl (l' := #[.val (.int i0), .val (.int i1), .val (.int i2), .val (.int i3), .val (.int i4), .val (.int (1 : Int32)), .val (.ref b10), .val (.int (i4 &&& (3 : Int32))), .unset, .unset, .unset, .unset, .unset]) rfl) ?_
      show Ends p e below _ T10 (mkF m 47 #[.val (.int i0), .val (.int i1), .val (.int i2), .val (.int i3), .val (.int i4), .val (.int (1 : Int32)), .val (.ref b10), .val (.int (i4 &&& (3 : Int32))), .unset, .unset, .unset, .unset, .unset] [])
      have J : ∀ t : Int32, Ends p e below (Fini s (fun v h L => v = some (.int 1) ∧ Fr n0 L) room_1.cells room_1.slots) T10 (mkF m 100 #[.val (.int i0), .val (.int i1), .val (.int i2), .val (.int i3), .val (.int i4), .val (.int (1 : Int32)), .val (.ref b10), .val (.int (i4 &&& (3 : Int32))), .val (.int t), .unset, .unset, .unset, .unset] []) := by
        intro t
        obtain ⟨T11, h11, X11, e11, E11, A11, D11, -, st11⟩ := newO X10 hx hZ hown (hw _ (List.mem_of_getElem? (i := 1) rfl)) (hw _ (List.mem_of_getElem? (i := 2) rfl)) (hw _ (List.mem_of_getElem? (i := 3) rfl)) e10 (g := (mkF m 100 #[.val (.int i0), .val (.int i1), .val (.int i2), .val (.int i3), .val (.int i4), .val (.int (1 : Int32)), .val (.ref b10), .val (.int (i4 &&& (3 : Int32))), .val (.int t), .unset, .unset, .unset, .unset] [])) rfl (hb hby at_100) (by decide) (by decide)
        obtain ⟨b11, g11⟩ : ∃ z, z = h10.size := ⟨_, rfl⟩
        rw [← g11] at A11 D11 st11
        refine Ends.by st11 ?_
        have A_b10_11 : Af Z h11 b10 .byte 0 (fun q => .int ((fun _ => (0 : Int32)) q)) := A_b10.ext E11
        have E_b10_11 : Exa Z h11 b10 "[B" := Q10.ext E11
        have Z11 : n0 ≤ h11.size := Nat.le_trans Z10 E11.1
        have g_b11 : n0 ≤ b11 := Nat.le_trans Z10 (Nat.le_of_eq g11.symm)
        have ne_b10_b11 : b10 ≠ b11 := Nat.ne_of_lt (Nat.lt_of_lt_of_le A_b10.lt (Nat.le_of_eq g11.symm))
        have F_b11_bytes : Fld Z h11 b11 "com/example/middle_shelf/middleshelf/config/Der" "bytes" "[B" .null := D11 (Or.inr (hw _ (List.mem_of_getElem? (i := 14) rfl))) (ty := (.array .byte)) (by decide)
        have F_b11_at : Fld Z h11 b11 "com/example/middle_shelf/middleshelf/config/Der" "at" "I" (.int (0 : Int32)) := D11 (Or.inl (hw _ (List.mem_of_getElem? (i := 16) rfl))) (ty := .int) (by decide)
        have F_b11_end : Fld Z h11 b11 "com/example/middle_shelf/middleshelf/config/Der" "end" "I" (.int (0 : Int32)) := D11 (Or.inr (hw _ (List.mem_of_getElem? (i := 18) rfl))) (ty := .int) (by decide)
        show Ends p e below _ T11 (mkF m 103 #[.val (.int i0), .val (.int i1), .val (.int i2), .val (.int i3), .val (.int i4), .val (.int (1 : Int32)), .val (.ref b10), .val (.int (i4 &&& (3 : Int32))), .val (.int t), .unset, .unset, .unset, .unset] [(.ref b11)])
        refine Ends.by (fun _ => XS.dup X11.here hx rfl (hb hby at_103) rfl rfl) ?_
        show Ends p e below _ T11 (mkF m 104 #[.val (.int i0), .val (.int i1), .val (.int i2), .val (.int i3), .val (.int i4), .val (.int (1 : Int32)), .val (.ref b10), .val (.int (i4 &&& (3 : Int32))), .val (.int t), .unset, .unset, .unset, .unset] [(.ref b11), (.ref b11)])
        refine Ends.by (fun _ => XS.aload X11.here hx rfl (hb hby at_104) rfl rfl) ?_
        show Ends p e below _ T11 (mkF m 106 #[.val (.int i0), .val (.int i1), .val (.int i2), .val (.int i3), .val (.int i4), .val (.int (1 : Int32)), .val (.ref b10), .val (.int (i4 &&& (3 : Int32))), .val (.int t), .unset, .unset, .unset, .unset] [(.ref b10), (.ref b11), (.ref b11)])
        refine Ends.callI (a := b11) (argsL := [(.ref b10)]) (rest := [(.ref b11)]) X11 hx hZ rfl hown (hw _ (List.mem_of_getElem? (i := 4) rfl)) (hw _ (List.mem_of_getElem? (i := 5) rfl)) (hw _ (List.mem_of_getElem? (i := 3) rfl)) (hw _ (List.mem_of_getElem? (i := 6) rfl)) (by decide) (con_1 l Z a0 hw b11 b10 0 (0 : Int32) (fun q => .int ((fun _ => (0 : Int32)) q)) h11 n0 Z11 A11 F_b11_bytes F_b11_at F_b11_end g_b11 A_b10_11 (by decide)) e11 (by rw [hml]; rfl) (hb hby at_106) (lenOf pd_1 rfl) 1 (Nat.le_of_eq rfl) (by decide) (by decide) (by decide) (by decide) ?_
        intro v T12 L12 X12 hQ
        obtain ⟨rfl, N12q, K12q, E12q, F12q, G12q, H12q⟩ := hQ
        have N12 := Fr.app N0 N12q
        have A_b10_12 : Af Z T12.heap b10 .byte 0 (fun q => .int ((fun _ => (0 : Int32)) q)) := A_b10_11.keep K12q (ninS ne_b10_b11 nin0)
        have E_b10_12 : Exa Z T12.heap b10 "[B" := E_b10_11.keep K12q
        have E_b11_12 : Exa Z T12.heap b11 "com/example/middle_shelf/middleshelf/config/Der" := A11.keep K12q
        have Z12 : n0 ≤ T12.heap.size := Nat.le_trans Z11 K12q.1
        show Ends p e below _ T12 (mkF m 109 #[.val (.int i0), .val (.int i1), .val (.int i2), .val (.int i3), .val (.int i4), .val (.int (1 : Int32)), .val (.ref b10), .val (.int (i4 &&& (3 : Int32))), .val (.int t), .unset, .unset, .unset, .unset] [(.ref b11)])
        refine Ends.by (fun _ => XS.astore X12.here hx rfl (hb hby at_109) rfl rfl (l' := #[.val (.int i0), .val (.int i1), .val (.int i2), .val (.int i3), .val (.int i4), .val (.int (1 : Int32)), .val (.ref b10), .val (.int (i4 &&& (3 : Int32))), .val (.int t), .val (.ref b11), .unset, .unset, .unset]) rfl) ?_
        show Ends p e below _ T12 (mkF m 111 #[.val (.int i0), .val (.int i1), .val (.int i2), .val (.int i3), .val (.int i4), .val (.int (1 : Int32)), .val (.ref b10), .val (.int (i4 &&& (3 : Int32))), .val (.int t), .val (.ref b11), .unset, .unset, .unset] [])
        refine Ends.by (fun _ => XS.iload X12.here hx rfl (hb hby at_111) rfl) ?_
        show Ends p e below _ T12 (mkF m 113 #[.val (.int i0), .val (.int i1), .val (.int i2), .val (.int i3), .val (.int i4), .val (.int (1 : Int32)), .val (.ref b10), .val (.int (i4 &&& (3 : Int32))), .val (.int t), .val (.ref b11), .unset, .unset, .unset] [(.int (1 : Int32))])
        refine Ends.ifc X12 hx (hb hby at_113) 130 (by decide) (by decide) (fun q => ?_) (fun q => ?_)
        · have c113 : ¬ ((1 : Int32) = (0 : Int32)) := own_ne.1 q
          show Ends p e below _ T12 (mkF m 130 #[.val (.int i0), .val (.int i1), .val (.int i2), .val (.int i3), .val (.int i4), .val (.int (1 : Int32)), .val (.ref b10), .val (.int (i4 &&& (3 : Int32))), .val (.int t), .val (.ref b11), .unset, .unset, .unset] [])
          refine Ends.by (fun _ => XS.iconst X12.here hx rfl (hb hby at_130)) ?_
          show Ends p e below _ T12 (mkF m 131 #[.val (.int i0), .val (.int i1), .val (.int i2), .val (.int i3), .val (.int i4), .val (.int (1 : Int32)), .val (.ref b10), .val (.int (i4 &&& (3 : Int32))), .val (.int t), .val (.ref b11), .unset, .unset, .unset] [(.int (0 : Int32))])
          refine Ends.by (fun _ => XS.istore X12.here hx rfl (hb hby at_131) rfl (l' := #[.val (.int i0), .val (.int i1), .val (.int i2), .val (.int i3), .val (.int i4), .val (.int (1 : Int32)), .val (.ref b10), .val (.int (i4 &&& (3 : Int32))), .val (.int t), .val (.ref b11), .val (.int (0 : Int32)), .unset, .unset]) rfl) ?_
          show Ends p e below _ T12 (mkF m 133 #[.val (.int i0), .val (.int i1), .val (.int i2), .val (.int i3), .val (.int i4), .val (.int (1 : Int32)), .val (.ref b10), .val (.int (i4 &&& (3 : Int32))), .val (.int t), .val (.ref b11), .val (.int (0 : Int32)), .unset, .unset] [])
          refine Ends.by (fun _ => XS.aload X12.here hx rfl (hb hby at_133) rfl rfl) ?_
          show Ends p e below _ T12 (mkF m 135 #[.val (.int i0), .val (.int i1), .val (.int i2), .val (.int i3), .val (.int i4), .val (.int (1 : Int32)), .val (.ref b10), .val (.int (i4 &&& (3 : Int32))), .val (.int t), .val (.ref b11), .val (.int (0 : Int32)), .unset, .unset] [(.ref b11)])
          refine Ends.by (fun _ => XS.iload X12.here hx rfl (hb hby at_135) rfl) ?_
          show Ends p e below _ T12 (mkF m 137 #[.val (.int i0), .val (.int i1), .val (.int i2), .val (.int i3), .val (.int i4), .val (.int (1 : Int32)), .val (.ref b10), .val (.int (i4 &&& (3 : Int32))), .val (.int t), .val (.ref b11), .val (.int (0 : Int32)), .unset, .unset] [(.int t), (.ref b11)])
          refine Ends.callV (a := b11) (argsL := [(.int t)]) (rest := []) X12 hx hZ hown (hw _ (List.mem_of_getElem? (i := 19) rfl)) (hw _ (List.mem_of_getElem? (i := 20) rfl)) (hw _ (List.mem_of_getElem? (i := 21) rfl)) (hw _ (List.mem_of_getElem? (i := 22) rfl)) (hw _ (List.mem_of_getElem? (i := 3) rfl)) (hw _ (List.mem_of_getElem? (i := 23) rfl)) (by decide) (con_4 l Z a0 hw b11 t b10 0 (0 : Int32) (0 : Int32) (fun q => .int ((fun _ => (0 : Int32)) q)) T12.heap n0 Z12 F12q G12q H12q A_b10_12 (by decide) (fun q => absurd q (by decide))) rfl E12q (by rw [hml]; rfl) (hb hby at_137) (lenOf pd_4 rfl) 0 (Nat.le_of_eq rfl) (by decide) (by decide) (by decide) (by decide) ?_
          intro v T13 L13 X13 hQ
          obtain ⟨rfl, e13, rfl⟩ := hQ
          rw [List.append_nil] at X13
          show Ends p e below _ T13 (mkF m 140 #[.val (.int i0), .val (.int i1), .val (.int i2), .val (.int i3), .val (.int i4), .val (.int (1 : Int32)), .val (.ref b10), .val (.int (i4 &&& (3 : Int32))), .val (.int t), .val (.ref b11), .val (.int (0 : Int32)), .unset, .unset] [(.int (own_starts (0 : Int32) (0 : Int32) t))])
          refine Ends.by (fun _ => XS.istore X13.here hx rfl (hb hby at_140) rfl (l' := #[.val (.int i0), .val (.int i1), .val (.int i2), .val (.int i3), .val (.int i4), .val (.int (1 : Int32)), .val (.ref b10), .val (.int (i4 &&& (3 : Int32))), .val (.int t), .val (.ref b11), .val (.int (0 : Int32)), .val (.int (own_starts (0 : Int32) (0 : Int32) t)), .unset]) rfl) ?_
          show Ends p e below _ T13 (mkF m 142 #[.val (.int i0), .val (.int i1), .val (.int i2), .val (.int i3), .val (.int i4), .val (.int (1 : Int32)), .val (.ref b10), .val (.int (i4 &&& (3 : Int32))), .val (.int t), .val (.ref b11), .val (.int (0 : Int32)), .val (.int (own_starts (0 : Int32) (0 : Int32) t)), .unset] [])
          refine Ends.by (fun _ => XS.aload X13.here hx rfl (hb hby at_142) rfl rfl) ?_
          show Ends p e below _ T13 (mkF m 144 #[.val (.int i0), .val (.int i1), .val (.int i2), .val (.int i3), .val (.int i4), .val (.int (1 : Int32)), .val (.ref b10), .val (.int (i4 &&& (3 : Int32))), .val (.int t), .val (.ref b11), .val (.int (0 : Int32)), .val (.int (own_starts (0 : Int32) (0 : Int32) t)), .unset] [(.ref b11)])
          refine Ends.by (fun _ => XS.iload X13.here hx rfl (hb hby at_144) rfl) ?_
          show Ends p e below _ T13 (mkF m 146 #[.val (.int i0), .val (.int i1), .val (.int i2), .val (.int i3), .val (.int i4), .val (.int (1 : Int32)), .val (.ref b10), .val (.int (i4 &&& (3 : Int32))), .val (.int t), .val (.ref b11), .val (.int (0 : Int32)), .val (.int (own_starts (0 : Int32) (0 : Int32) t)), .unset] [(.int t), (.ref b11)])
          refine Ends.callV (a := b11) (argsL := [(.int t)]) (rest := []) X13 hx hZ hown (hw _ (List.mem_of_getElem? (i := 19) rfl)) (hw _ (List.mem_of_getElem? (i := 20) rfl)) (hw _ (List.mem_of_getElem? (i := 21) rfl)) (hw _ (List.mem_of_getElem? (i := 22) rfl)) (hw _ (List.mem_of_getElem? (i := 3) rfl)) (hw _ (List.mem_of_getElem? (i := 23) rfl)) (by decide) (con_4 l Z a0 hw b11 t b10 0 (0 : Int32) (0 : Int32) (fun q => .int ((fun _ => (0 : Int32)) q)) T12.heap n0 Z12 F12q G12q H12q A_b10_12 (by decide) (fun q => absurd q (by decide))) e13 E12q (by rw [hml]; rfl) (hb hby at_146) (lenOf pd_4 rfl) 0 (Nat.le_of_eq rfl) (by decide) (by decide) (by decide) (by decide) ?_
          intro v T14 L14 X14 hQ
          obtain ⟨rfl, e14, rfl⟩ := hQ
          rw [List.append_nil] at X14
          show Ends p e below _ T14 (mkF m 149 #[.val (.int i0), .val (.int i1), .val (.int i2), .val (.int i3), .val (.int i4), .val (.int (1 : Int32)), .val (.ref b10), .val (.int (i4 &&& (3 : Int32))), .val (.int t), .val (.ref b11), .val (.int (0 : Int32)), .val (.int (own_starts (0 : Int32) (0 : Int32) t)), .unset] [(.int (own_starts (0 : Int32) (0 : Int32) t))])
          refine Ends.by (fun _ => XS.istore X14.here hx rfl (hb hby at_149) rfl (l' := #[.val (.int i0), .val (.int i1), .val (.int i2), .val (.int i3), .val (.int i4), .val (.int (1 : Int32)), .val (.ref b10), .val (.int (i4 &&& (3 : Int32))), .val (.int t), .val (.ref b11), .val (.int (0 : Int32)), .val (.int (own_starts (0 : Int32) (0 : Int32) t)), .val (.int (own_starts (0 : Int32) (0 : Int32) t))]) rfl) ?_
          show Ends p e below _ T14 (mkF m 151 #[.val (.int i0), .val (.int i1), .val (.int i2), .val (.int i3), .val (.int i4), .val (.int (1 : Int32)), .val (.ref b10), .val (.int (i4 &&& (3 : Int32))), .val (.int t), .val (.ref b11), .val (.int (0 : Int32)), .val (.int (own_starts (0 : Int32) (0 : Int32) t)), .val (.int (own_starts (0 : Int32) (0 : Int32) t))] [])
          refine Ends.by (fun _ => XS.iload X14.here hx rfl (hb hby at_151) rfl) ?_
          show Ends p e below _ T14 (mkF m 153 #[.val (.int i0), .val (.int i1), .val (.int i2), .val (.int i3), .val (.int i4), .val (.int (1 : Int32)), .val (.ref b10), .val (.int (i4 &&& (3 : Int32))), .val (.int t), .val (.ref b11), .val (.int (0 : Int32)), .val (.int (own_starts (0 : Int32) (0 : Int32) t)), .val (.int (own_starts (0 : Int32) (0 : Int32) t))] [(.int (own_starts (0 : Int32) (0 : Int32) t))])
          refine Ends.by (fun _ => XS.iload X14.here hx rfl (hb hby at_153) rfl) ?_
          show Ends p e below _ T14 (mkF m 155 #[.val (.int i0), .val (.int i1), .val (.int i2), .val (.int i3), .val (.int i4), .val (.int (1 : Int32)), .val (.ref b10), .val (.int (i4 &&& (3 : Int32))), .val (.int t), .val (.ref b11), .val (.int (0 : Int32)), .val (.int (own_starts (0 : Int32) (0 : Int32) t)), .val (.int (own_starts (0 : Int32) (0 : Int32) t))] [(.int (0 : Int32)), (.int (own_starts (0 : Int32) (0 : Int32) t))])
          refine Ends.icmp X14 hx (hb hby at_155) 169 (by decide) (by decide) (fun q => ?_) (fun q => ?_)
          · have c155 : ¬ ((own_starts (0 : Int32) (0 : Int32) t) = (0 : Int32)) := own_ne.1 q
            exact absurd (own_s0 _) c155
          · have c155 : (own_starts (0 : Int32) (0 : Int32) t) = (0 : Int32) := own_ne.2 q
            show Ends p e below _ T14 (mkF m 158 #[.val (.int i0), .val (.int i1), .val (.int i2), .val (.int i3), .val (.int i4), .val (.int (1 : Int32)), .val (.ref b10), .val (.int (i4 &&& (3 : Int32))), .val (.int t), .val (.ref b11), .val (.int (0 : Int32)), .val (.int (own_starts (0 : Int32) (0 : Int32) t)), .val (.int (own_starts (0 : Int32) (0 : Int32) t))] [])
            refine Ends.by (fun _ => XS.iload X14.here hx rfl (hb hby at_158) rfl) ?_
            show Ends p e below _ T14 (mkF m 160 #[.val (.int i0), .val (.int i1), .val (.int i2), .val (.int i3), .val (.int i4), .val (.int (1 : Int32)), .val (.ref b10), .val (.int (i4 &&& (3 : Int32))), .val (.int t), .val (.ref b11), .val (.int (0 : Int32)), .val (.int (own_starts (0 : Int32) (0 : Int32) t)), .val (.int (own_starts (0 : Int32) (0 : Int32) t))] [(.int (own_starts (0 : Int32) (0 : Int32) t))])
            refine Ends.by (fun _ => XS.iload X14.here hx rfl (hb hby at_160) rfl) ?_
            show Ends p e below _ T14 (mkF m 162 #[.val (.int i0), .val (.int i1), .val (.int i2), .val (.int i3), .val (.int i4), .val (.int (1 : Int32)), .val (.ref b10), .val (.int (i4 &&& (3 : Int32))), .val (.int t), .val (.ref b11), .val (.int (0 : Int32)), .val (.int (own_starts (0 : Int32) (0 : Int32) t)), .val (.int (own_starts (0 : Int32) (0 : Int32) t))] [(.int (0 : Int32)), (.int (own_starts (0 : Int32) (0 : Int32) t))])
            refine Ends.icmp X14 hx (hb hby at_162) 169 (by decide) (by decide) (fun q => ?_) (fun q => ?_)
            · have c162 : ¬ ((own_starts (0 : Int32) (0 : Int32) t) = (0 : Int32)) := own_ne.1 q
              exact absurd (own_s0 _) c162
            · have c162 : (own_starts (0 : Int32) (0 : Int32) t) = (0 : Int32) := own_ne.2 q
              show Ends p e below _ T14 (mkF m 165 #[.val (.int i0), .val (.int i1), .val (.int i2), .val (.int i3), .val (.int i4), .val (.int (1 : Int32)), .val (.ref b10), .val (.int (i4 &&& (3 : Int32))), .val (.int t), .val (.ref b11), .val (.int (0 : Int32)), .val (.int (own_starts (0 : Int32) (0 : Int32) t)), .val (.int (own_starts (0 : Int32) (0 : Int32) t))] [])
              refine Ends.by (fun _ => XS.iconst X14.here hx rfl (hb hby at_165)) ?_
              show Ends p e below _ T14 (mkF m 166 #[.val (.int i0), .val (.int i1), .val (.int i2), .val (.int i3), .val (.int i4), .val (.int (1 : Int32)), .val (.ref b10), .val (.int (i4 &&& (3 : Int32))), .val (.int t), .val (.ref b11), .val (.int (0 : Int32)), .val (.int (own_starts (0 : Int32) (0 : Int32) t)), .val (.int (own_starts (0 : Int32) (0 : Int32) t))] [(.int (1 : Int32))])
              refine Ends.by (fun _ => XS.goto X14.here hx rfl (pc0 := 166) (pc' := 170) rfl (hb hby at_166) (by decide) (by decide)) ?_
              show Ends p e below _ T14 (mkF m 170 #[.val (.int i0), .val (.int i1), .val (.int i2), .val (.int i3), .val (.int i4), .val (.int (1 : Int32)), .val (.ref b10), .val (.int (i4 &&& (3 : Int32))), .val (.int t), .val (.ref b11), .val (.int (0 : Int32)), .val (.int (own_starts (0 : Int32) (0 : Int32) t)), .val (.int (own_starts (0 : Int32) (0 : Int32) t))] [(.int (1 : Int32))])
              exact Ends.retZ X14 hx hlk hret (hb hby at_170) (by first | decide | (simp; done)) (by decide) (by decide) (⟨rfl, N12⟩)
        · have c113 : (1 : Int32) = (0 : Int32) := own_ne.2 q
          exact absurd c113 (by decide)
      refine Ends.by (fun _ => XS.iload X10.here hx rfl (hb hby at_47) rfl) ?_
      show Ends p e below _ T10 (mkF m 49 #[.val (.int i0), .val (.int i1), .val (.int i2), .val (.int i3), .val (.int i4), .val (.int (1 : Int32)), .val (.ref b10), .val (.int (i4 &&& (3 : Int32))), .unset, .unset, .unset, .unset, .unset] [(.int (i4 &&& (3 : Int32)))])
      refine Ends.ifc X10 hx (hb hby at_49) 58 (by decide) (by decide) (fun q => ?_) (fun q => ?_)
      · have c49 : ¬ ((i4 &&& (3 : Int32)) = (0 : Int32)) := own_ne.1 q
        show Ends p e below _ T10 (mkF m 58 #[.val (.int i0), .val (.int i1), .val (.int i2), .val (.int i3), .val (.int i4), .val (.int (1 : Int32)), .val (.ref b10), .val (.int (i4 &&& (3 : Int32))), .unset, .unset, .unset, .unset, .unset] [])
        refine Ends.by (fun _ => XS.iload X10.here hx rfl (hb hby at_58) rfl) ?_
        show Ends p e below _ T10 (mkF m 60 #[.val (.int i0), .val (.int i1), .val (.int i2), .val (.int i3), .val (.int i4), .val (.int (1 : Int32)), .val (.ref b10), .val (.int (i4 &&& (3 : Int32))), .unset, .unset, .unset, .unset, .unset] [(.int (i4 &&& (3 : Int32)))])
        refine Ends.by (fun _ => XS.iconst X10.here hx rfl (hb hby at_60)) ?_
        show Ends p e below _ T10 (mkF m 61 #[.val (.int i0), .val (.int i1), .val (.int i2), .val (.int i3), .val (.int i4), .val (.int (1 : Int32)), .val (.ref b10), .val (.int (i4 &&& (3 : Int32))), .unset, .unset, .unset, .unset, .unset] [(.int (1 : Int32)), (.int (i4 &&& (3 : Int32)))])
        refine Ends.icmp X10 hx (hb hby at_61) 74 (by decide) (by decide) (fun q => ?_) (fun q => ?_)
        · have c61 : ¬ ((i4 &&& (3 : Int32)) = (1 : Int32)) := own_ne.1 q
          show Ends p e below _ T10 (mkF m 74 #[.val (.int i0), .val (.int i1), .val (.int i2), .val (.int i3), .val (.int i4), .val (.int (1 : Int32)), .val (.ref b10), .val (.int (i4 &&& (3 : Int32))), .unset, .unset, .unset, .unset, .unset] [])
          refine Ends.by (fun _ => XS.iload X10.here hx rfl (hb hby at_74) rfl) ?_
          show Ends p e below _ T10 (mkF m 76 #[.val (.int i0), .val (.int i1), .val (.int i2), .val (.int i3), .val (.int i4), .val (.int (1 : Int32)), .val (.ref b10), .val (.int (i4 &&& (3 : Int32))), .unset, .unset, .unset, .unset, .unset] [(.int (i4 &&& (3 : Int32)))])
          refine Ends.by (fun _ => XS.iconst X10.here hx rfl (hb hby at_76)) ?_
          show Ends p e below _ T10 (mkF m 77 #[.val (.int i0), .val (.int i1), .val (.int i2), .val (.int i3), .val (.int i4), .val (.int (1 : Int32)), .val (.ref b10), .val (.int (i4 &&& (3 : Int32))), .unset, .unset, .unset, .unset, .unset] [(.int (2 : Int32)), (.int (i4 &&& (3 : Int32)))])
          refine Ends.icmp X10 hx (hb hby at_77) 87 (by decide) (by decide) (fun q => ?_) (fun q => ?_)
          · have c77 : ¬ ((i4 &&& (3 : Int32)) = (2 : Int32)) := own_ne.1 q
            show Ends p e below _ T10 (mkF m 87 #[.val (.int i0), .val (.int i1), .val (.int i2), .val (.int i3), .val (.int i4), .val (.int (1 : Int32)), .val (.ref b10), .val (.int (i4 &&& (3 : Int32))), .unset, .unset, .unset, .unset, .unset] [])
            refine Ends.by (fun _ => XS.iloadN X10.here hx rfl (hb hby at_87) rfl) ?_
            show Ends p e below _ T10 (mkF m 88 #[.val (.int i0), .val (.int i1), .val (.int i2), .val (.int i3), .val (.int i4), .val (.int (1 : Int32)), .val (.ref b10), .val (.int (i4 &&& (3 : Int32))), .unset, .unset, .unset, .unset, .unset] [(.int i1)])
            refine Ends.by (fun _ => XS.sipush X10.here hx rfl (hb hby at_88)) ?_
            show Ends p e below _ T10 (mkF m 91 #[.val (.int i0), .val (.int i1), .val (.int i2), .val (.int i3), .val (.int i4), .val (.int (1 : Int32)), .val (.ref b10), .val (.int (i4 &&& (3 : Int32))), .unset, .unset, .unset, .unset, .unset] [(.int (255 : Int32)), (.int i1)])
            refine Ends.by (fun _ => XS.iand X10.here hx rfl (hb hby at_91) rfl) ?_
            show Ends p e below _ T10 (mkF m 92 #[.val (.int i0), .val (.int i1), .val (.int i2), .val (.int i3), .val (.int i4), .val (.int (1 : Int32)), .val (.ref b10), .val (.int (i4 &&& (3 : Int32))), .unset, .unset, .unset, .unset, .unset] [(.int (i1 &&& (255 : Int32)))])
            refine Ends.by (fun _ => XS.iloadN X10.here hx rfl (hb hby at_92) rfl) ?_
            show Ends p e below _ T10 (mkF m 93 #[.val (.int i0), .val (.int i1), .val (.int i2), .val (.int i3), .val (.int i4), .val (.int (1 : Int32)), .val (.ref b10), .val (.int (i4 &&& (3 : Int32))), .unset, .unset, .unset, .unset, .unset] [(.int i3), (.int (i1 &&& (255 : Int32)))])
            refine Ends.by (fun _ => XS.sipush X10.here hx rfl (hb hby at_93)) ?_
            show Ends p e below _ T10 (mkF m 96 #[.val (.int i0), .val (.int i1), .val (.int i2), .val (.int i3), .val (.int i4), .val (.int (1 : Int32)), .val (.ref b10), .val (.int (i4 &&& (3 : Int32))), .unset, .unset, .unset, .unset, .unset] [(.int (-256 : Int32)), (.int i3), (.int (i1 &&& (255 : Int32)))])
            refine Ends.by (fun _ => XS.iand X10.here hx rfl (hb hby at_96) rfl) ?_
            show Ends p e below _ T10 (mkF m 97 #[.val (.int i0), .val (.int i1), .val (.int i2), .val (.int i3), .val (.int i4), .val (.int (1 : Int32)), .val (.ref b10), .val (.int (i4 &&& (3 : Int32))), .unset, .unset, .unset, .unset, .unset] [(.int (i3 &&& (-256 : Int32))), (.int (i1 &&& (255 : Int32)))])
            refine Ends.by (fun _ => XS.ixor X10.here hx rfl (hb hby at_97) rfl) ?_
            show Ends p e below _ T10 (mkF m 98 #[.val (.int i0), .val (.int i1), .val (.int i2), .val (.int i3), .val (.int i4), .val (.int (1 : Int32)), .val (.ref b10), .val (.int (i4 &&& (3 : Int32))), .unset, .unset, .unset, .unset, .unset] [(.int ((i1 &&& (255 : Int32)) ^^^ (i3 &&& (-256 : Int32))))])
            refine Ends.by (fun _ => XS.istore X10.here hx rfl (hb hby at_98) rfl (l' := #[.val (.int i0), .val (.int i1), .val (.int i2), .val (.int i3), .val (.int i4), .val (.int (1 : Int32)), .val (.ref b10), .val (.int (i4 &&& (3 : Int32))), .val (.int ((i1 &&& (255 : Int32)) ^^^ (i3 &&& (-256 : Int32)))), .unset, .unset, .unset, .unset]) rfl) ?_
            show Ends p e below _ T10 (mkF m 100 #[.val (.int i0), .val (.int i1), .val (.int i2), .val (.int i3), .val (.int i4), .val (.int (1 : Int32)), .val (.ref b10), .val (.int (i4 &&& (3 : Int32))), .val (.int ((i1 &&& (255 : Int32)) ^^^ (i3 &&& (-256 : Int32)))), .unset, .unset, .unset, .unset] [])
            exact J _
          · have c77 : (i4 &&& (3 : Int32)) = (2 : Int32) := own_ne.2 q
            show Ends p e below _ T10 (mkF m 80 #[.val (.int i0), .val (.int i1), .val (.int i2), .val (.int i3), .val (.int i4), .val (.int (1 : Int32)), .val (.ref b10), .val (.int (i4 &&& (3 : Int32))), .unset, .unset, .unset, .unset, .unset] [])
            refine Ends.by (fun _ => XS.iloadN X10.here hx rfl (hb hby at_80) rfl) ?_
            show Ends p e below _ T10 (mkF m 81 #[.val (.int i0), .val (.int i1), .val (.int i2), .val (.int i3), .val (.int i4), .val (.int (1 : Int32)), .val (.ref b10), .val (.int (i4 &&& (3 : Int32))), .unset, .unset, .unset, .unset, .unset] [(.int i1)])
            refine Ends.by (fun _ => XS.i2b X10.here hx rfl (hb hby at_81) rfl) ?_
            show Ends p e below _ T10 (mkF m 82 #[.val (.int i0), .val (.int i1), .val (.int i2), .val (.int i3), .val (.int i4), .val (.int (1 : Int32)), .val (.ref b10), .val (.int (i4 &&& (3 : Int32))), .unset, .unset, .unset, .unset, .unset] [(.int (i1.toInt8.toInt32))])
            refine Ends.by (fun _ => XS.istore X10.here hx rfl (hb hby at_82) rfl (l' := #[.val (.int i0), .val (.int i1), .val (.int i2), .val (.int i3), .val (.int i4), .val (.int (1 : Int32)), .val (.ref b10), .val (.int (i4 &&& (3 : Int32))), .val (.int (i1.toInt8.toInt32)), .unset, .unset, .unset, .unset]) rfl) ?_
            show Ends p e below _ T10 (mkF m 84 #[.val (.int i0), .val (.int i1), .val (.int i2), .val (.int i3), .val (.int i4), .val (.int (1 : Int32)), .val (.ref b10), .val (.int (i4 &&& (3 : Int32))), .val (.int (i1.toInt8.toInt32)), .unset, .unset, .unset, .unset] [])
            refine Ends.by (fun _ => XS.goto X10.here hx rfl (pc0 := 84) (pc' := 100) rfl (hb hby at_84) (by decide) (by decide)) ?_
            show Ends p e below _ T10 (mkF m 100 #[.val (.int i0), .val (.int i1), .val (.int i2), .val (.int i3), .val (.int i4), .val (.int (1 : Int32)), .val (.ref b10), .val (.int (i4 &&& (3 : Int32))), .val (.int (i1.toInt8.toInt32)), .unset, .unset, .unset, .unset] [])
            exact J _
        · have c61 : (i4 &&& (3 : Int32)) = (1 : Int32) := own_ne.2 q
          show Ends p e below _ T10 (mkF m 64 #[.val (.int i0), .val (.int i1), .val (.int i2), .val (.int i3), .val (.int i4), .val (.int (1 : Int32)), .val (.ref b10), .val (.int (i4 &&& (3 : Int32))), .unset, .unset, .unset, .unset, .unset] [])
          refine Ends.by (fun _ => XS.iloadN X10.here hx rfl (hb hby at_64) rfl) ?_
          show Ends p e below _ T10 (mkF m 65 #[.val (.int i0), .val (.int i1), .val (.int i2), .val (.int i3), .val (.int i4), .val (.int (1 : Int32)), .val (.ref b10), .val (.int (i4 &&& (3 : Int32))), .unset, .unset, .unset, .unset, .unset] [(.int i1)])
          refine Ends.by (fun _ => XS.sipush X10.here hx rfl (hb hby at_65)) ?_
          show Ends p e below _ T10 (mkF m 68 #[.val (.int i0), .val (.int i1), .val (.int i2), .val (.int i3), .val (.int i4), .val (.int (1 : Int32)), .val (.ref b10), .val (.int (i4 &&& (3 : Int32))), .unset, .unset, .unset, .unset, .unset] [(.int (255 : Int32)), (.int i1)])
          refine Ends.by (fun _ => XS.iand X10.here hx rfl (hb hby at_68) rfl) ?_
          show Ends p e below _ T10 (mkF m 69 #[.val (.int i0), .val (.int i1), .val (.int i2), .val (.int i3), .val (.int i4), .val (.int (1 : Int32)), .val (.ref b10), .val (.int (i4 &&& (3 : Int32))), .unset, .unset, .unset, .unset, .unset] [(.int (i1 &&& (255 : Int32)))])
          refine Ends.by (fun _ => XS.istore X10.here hx rfl (hb hby at_69) rfl (l' := #[.val (.int i0), .val (.int i1), .val (.int i2), .val (.int i3), .val (.int i4), .val (.int (1 : Int32)), .val (.ref b10), .val (.int (i4 &&& (3 : Int32))), .val (.int (i1 &&& (255 : Int32))), .unset, .unset, .unset, .unset]) rfl) ?_
          show Ends p e below _ T10 (mkF m 71 #[.val (.int i0), .val (.int i1), .val (.int i2), .val (.int i3), .val (.int i4), .val (.int (1 : Int32)), .val (.ref b10), .val (.int (i4 &&& (3 : Int32))), .val (.int (i1 &&& (255 : Int32))), .unset, .unset, .unset, .unset] [])
          refine Ends.by (fun _ => XS.goto X10.here hx rfl (pc0 := 71) (pc' := 100) rfl (hb hby at_71) (by decide) (by decide)) ?_
          show Ends p e below _ T10 (mkF m 100 #[.val (.int i0), .val (.int i1), .val (.int i2), .val (.int i3), .val (.int i4), .val (.int (1 : Int32)), .val (.ref b10), .val (.int (i4 &&& (3 : Int32))), .val (.int (i1 &&& (255 : Int32))), .unset, .unset, .unset, .unset] [])
          exact J _
      · have c49 : (i4 &&& (3 : Int32)) = (0 : Int32) := own_ne.2 q
        show Ends p e below _ T10 (mkF m 52 #[.val (.int i0), .val (.int i1), .val (.int i2), .val (.int i3), .val (.int i4), .val (.int (1 : Int32)), .val (.ref b10), .val (.int (i4 &&& (3 : Int32))), .unset, .unset, .unset, .unset, .unset] [])
        refine Ends.by (fun _ => XS.iloadN X10.here hx rfl (hb hby at_52) rfl) ?_
        show Ends p e below _ T10 (mkF m 53 #[.val (.int i0), .val (.int i1), .val (.int i2), .val (.int i3), .val (.int i4), .val (.int (1 : Int32)), .val (.ref b10), .val (.int (i4 &&& (3 : Int32))), .unset, .unset, .unset, .unset, .unset] [(.int i3)])
        refine Ends.by (fun _ => XS.istore X10.here hx rfl (hb hby at_53) rfl (l' := #[.val (.int i0), .val (.int i1), .val (.int i2), .val (.int i3), .val (.int i4), .val (.int (1 : Int32)), .val (.ref b10), .val (.int (i4 &&& (3 : Int32))), .val (.int i3), .unset, .unset, .unset, .unset]) rfl) ?_
        show Ends p e below _ T10 (mkF m 55 #[.val (.int i0), .val (.int i1), .val (.int i2), .val (.int i3), .val (.int i4), .val (.int (1 : Int32)), .val (.ref b10), .val (.int (i4 &&& (3 : Int32))), .val (.int i3), .unset, .unset, .unset, .unset] [])
        refine Ends.by (fun _ => XS.goto X10.here hx rfl (pc0 := 55) (pc' := 100) rfl (hb hby at_55) (by decide) (by decide)) ?_
        show Ends p e below _ T10 (mkF m 100 #[.val (.int i0), .val (.int i1), .val (.int i2), .val (.int i3), .val (.int i4), .val (.int (1 : Int32)), .val (.ref b10), .val (.int (i4 &&& (3 : Int32))), .val (.int i3), .unset, .unset, .unset, .unset] [])
        exact J _
set_option maxRecDepth 65536 in
set_option maxHeartbeats 40000000 in
theorem comes_1 {Post : Tables → Env → Array Value → State → Outcome → State → Prop} (hpost : ∀ tb e args s v u, (limb_1_1.after args s (.returned v) u = true ∧ limb_1_2.after args s (.returned v) u = true) → FrameEnd s (.returned v) u (Jvm.fieldLocs frame_1_writes args s ++ Jvm.arrayLocs frame_1_arrays args s ++ Jvm.staticLocs frame_1_statics s) 16 128 → Post tb e args s (.returned v) u) :
    ArmFor flags0 classFile x code maxLocals ret World_1 tables_1 room_1 Calls_1 rest_1 Pre_1 Post := by
  intro l hfl _ _ p e ha hc hk s m args below hf hA hF happ hP
  obtain ⟨hcalls, hrest, hpre⟩ := hP
  obtain ⟨-, -, -, hnamed, -, -, -, hat⟩ := (Spec.applies_iff hf).mp happ
  obtain ⟨hg, hn⟩ := and_e (Cond.before_iff.mp (show (Jvm.Cond.and given_1 narrow_1).before args s = true from hpre))
  obtain ⟨hcount, g0⟩ := and_e hg
  obtain ⟨k0, g1⟩ := and_e g0
  obtain ⟨k1, g2⟩ := and_e g1
  obtain ⟨k2, g3⟩ := and_e g2
  obtain ⟨k3, g4⟩ := and_e g3
  obtain ⟨w0, w1, w2, w3, w4, rfl⟩ : ∃ w0 w1 w2 w3 w4 : Value, args = #[w0, w1, w2, w3, w4] := by
    have hs : args.size = 5 := by simpa [Cond.value, given_1] using hcount
    obtain ⟨L⟩ := args
    match L, hs with
    | [w0, w1, w2, w3, w4], _ => exact ⟨w0, w1, w2, w3, w4, rfl⟩
  have hw := fun d (hd : d ∈ tables_1) => atoms_spec (ws := Jvm.Cond.code x code maxLocals ret :: tables_1) hat d (List.mem_cons_of_mem _ hd)
  obtain ⟨i0, ei0⟩ := is_v k0
  obtain rfl : w0 = (.int i0) := Option.some.inj ei0
  obtain ⟨i1, ei1⟩ := is_v k1
  obtain rfl : w1 = (.int i1) := Option.some.inj ei1
  obtain ⟨i2, ei2⟩ := is_v k2
  obtain rfl : w2 = (.int i2) := Option.some.inj ei2
  obtain ⟨i3, ei3⟩ := is_v k3
  obtain rfl : w3 = (.int i3) := Option.some.inj ei3
  obtain ⟨i4, ei4⟩ := is_v g4
  obtain rfl : w4 = (.int i4) := Option.some.inj ei4
  obtain ⟨n, o, h1, h2, h3, _, L, rfl, ⟨rfl, N⟩, hq⟩ := con_0 l s _ hw i0 i1 i2 i3 i4 s.heap s.heap.size (Nat.le_refl _) tables_1 p e ha hc hk s m _ below hf ((Spec.applies_iff_loose hf).mp happ).1 ⟨rfl, State.Warmed39.refl s, rfl⟩ trivial
  refine ⟨n, _, h1, h2, h3, hpost _ _ _ _ _ _ ⟨Cond.after_iff.mpr rfl, Cond.after_iff.mpr (eq_i res_at (Term.int_eval (1)) rfl)⟩ ⟨hq.1, hq.2.1, (hq.2.2.sift fun y hy => Or.inr (N y hy)).mono (by decide) (by decide)⟩⟩
theorem main_1_1 : Claimed_1_1 := comes_1 fun _ _ _ _ _ _ h hF => ⟨h.1, hF⟩
theorem main_1_2 : Claimed_1_2 := comes_1 fun _ _ _ _ _ _ h hF => ⟨h.2, hF⟩
end Jvm.Pilot.@@N@@
namespace Jvm.Pilot.@@N@@
open Jvm Jvm.ClassFile Sem Op Lib Jvm.Free Jvm.Stand Jvm.Pilot.@@N@@.Jvm.D
/-! MADE BY PROGRAM (witnessworld.py) out of the Statement's table words and the real class files: 9 classes; the members and pool entries that the words name. The judged class is class 1, her method 1. -/
namespace start1
open Jvm.ClassFile
def u (s : String) : CpInfo := .utf8 (stringToUtf16 s)
/-- a pool by its gaps: so many unusable entries, then the entry; so many at the end -/
def gap : Nat → List CpInfo → List CpInfo
  | 0, r => r
  | n + 1, r => .unusable :: gap n r
def poolList (es : List (Nat × CpInfo)) (last : Nat) : List CpInfo := es.foldr (fun e r => gap e.1 (e.2 :: r)) (gap last [])
def pool (es : List (Nat × CpInfo)) (last : Nat) : Array CpInfo := ⟨poolList es last⟩
def fileOf (pool : Array CpInfo) (this : Nat) (attrs : Array Attribute := #[]) (ms : Array MethodInfo := #[]) (fl : Nat := 33) (sup : Nat := 0) (ifs : Array Nat := #[]) (fds : Array FieldInfo := #[]) : ClassFile where
  minorVersion := 0
  majorVersion := 65
  constantPool := pool
  accessFlags := fl
  thisClass := this
  superClass := sup
  interfaces := ifs
  fields := fds
  methods := ms
  attributes := attrs
def plain (name : String) (sup : Option ClassId) : Class where
  name := name
  kind := .ordinary
  loader := none
  accessFlags := 33
  super := sup
  interfaces := #[]
  cf := none
  fields := #[]
  methods := #[]
  instanceTypes := #[]
  staticTypes := #[]
  resolved := #[]
  callSites := []
  init := .initialized
  statics := none
  mirror := none

def pool0 : Array CpInfo := pool [(5, u "<init>"), (0, u "()V"), (1, .class_ 10), (1, u "java/lang/Object")] 113

def k0c0 : Code := { maxStack := 0, maxLocals := 1, code := object_method_1_code, exceptionTable := #[], attributes := #[] }
def k0m0 : Method := { name := "<init>", desc := "()V", sig := { parameters := [], returnType := none }, accessFlags := 1, code := some k0c0 }
/-- java/lang/Object -/
def k0 : Class := { plain "java/lang/Object" none with
  accessFlags := 33
  interfaces := #[]
  cf := some (fileOf pool0 8 #[] #[{ accessFlags := 1, nameIndex := 5, descriptorIndex := 6, attributes := #[] }] 33 0 #[] #[])
  fields := #[]
  methods := #[k0m0]
  instanceTypes := #[]
  staticTypes := #[]
  resolved := Array.replicate 124 none
  statics := none }

def pool1 : Array CpInfo := pool [(2, .class_ 4), (1, u "java/lang/Object"), (0, u "<init>"), (0, u "()V"), (0, .class_ 8), (0, u "com/example/middle_shelf/middleshelf/config/Der"), (0, .methodref 7 10), (0, .nameAndType 5 11), (0, u "([B)V"), (0, .methodref 7 13), (0, .nameAndType 14 15), (0, u "startsWith"), (0, u "(I)Z"), (0, .class_ 17), (0, u "com/example/middle_shelf/middleshelf/config/DerStartsWithPinLaw"), (2, u "law"), (0, u "(IIIII)Z")] 5

def k1m0 : Method := { name := "<init>", desc := "()V", sig := { parameters := [], returnType := none }, accessFlags := 1, code := none }
def k1c1 : Code := { maxStack := 4, maxLocals := 13, code := code, exceptionTable := #[], attributes := #[] }
def k1m1 : Method := { name := "law", desc := "(IIIII)Z", sig := { parameters := [.int, .int, .int, .int, .int], returnType := some .boolean }, accessFlags := 9, code := some k1c1 }
/-- com/example/middle_shelf/middleshelf/config/DerStartsWithPinLaw -/
def k1 : Class := { plain "com/example/middle_shelf/middleshelf/config/DerStartsWithPinLaw" (some 0) with
  accessFlags := 49
  interfaces := #[]
  cf := some (fileOf pool1 16 #[] #[{ accessFlags := 1, nameIndex := 5, descriptorIndex := 6, attributes := #[] }, { accessFlags := 9, nameIndex := 20, descriptorIndex := 21, attributes := #[] }] 49 2 #[] #[])
  fields := #[]
  methods := #[k1m0, k1m1]
  instanceTypes := #[]
  staticTypes := #[]
  resolved := Array.replicate 27 none
  statics := none }

def pool2 : Array CpInfo := pool [(1, .methodref 2 3), (0, .class_ 4), (0, .nameAndType 5 6), (0, u "com/example/middle_shelf/middleshelf/config/Der"), (0, u "<init>"), (0, u "([BII)V"), (0, .methodref 8 9), (0, .class_ 10), (0, .nameAndType 5 11), (0, u "java/lang/Object"), (0, u "()V"), (0, .fieldref 2 13), (0, .nameAndType 14 15), (0, u "bytes"), (0, u "[B"), (0, .fieldref 2 17), (0, .nameAndType 18 19), (0, u "at"), (0, u "I"), (0, .fieldref 2 21), (0, .nameAndType 22 19), (0, u "end"), (2, u "startsWith"), (0, u "(I)Z"), (23, u "([B)V"), (18, u "INTEGER"), (2, u "OCTET_STRING"), (1, u "NULL"), (1, u "OBJECT_IDENTIFIER"), (1, u "SEQUENCE"), (1, u "EXPLICIT_0"), (1, u "LONG_LENGTH"), (1, u "MAX_LENGTH_BYTES")] 14

def k2c0 : Code := { maxStack := 4, maxLocals := 2, code := prog_13_method_1_code, exceptionTable := #[], attributes := #[] }
def k2m0 : Method := { name := "<init>", desc := "([B)V", sig := { parameters := [(.array .byte)], returnType := none }, accessFlags := 0, code := some k2c0 }
def k2c1 : Code := { maxStack := 2, maxLocals := 4, code := prog_13_method_2_code, exceptionTable := #[], attributes := #[] }
def k2m1 : Method := { name := "<init>", desc := "([BII)V", sig := { parameters := [(.array .byte), .int, .int], returnType := none }, accessFlags := 2, code := some k2c1 }
def k2c2 : Code := { maxStack := 2, maxLocals := 2, code := prog_13_method_3_code, exceptionTable := #[], attributes := #[] }
def k2m2 : Method := { name := "startsWith", desc := "(I)Z", sig := { parameters := [.int], returnType := some .boolean }, accessFlags := 0, code := some k2c2 }
/-- com/example/middle_shelf/middleshelf/config/Der -/
def k2 : Class := { plain "com/example/middle_shelf/middleshelf/config/Der" (some 0) with
  accessFlags := 48
  interfaces := #[]
  cf := some (fileOf pool2 2 #[] #[{ accessFlags := 0, nameIndex := 5, descriptorIndex := 50, attributes := #[] }, { accessFlags := 2, nameIndex := 5, descriptorIndex := 6, attributes := #[] }, { accessFlags := 0, nameIndex := 25, descriptorIndex := 26, attributes := #[] }] 48 8 #[] #[{ accessFlags := 24, nameIndex := 69, descriptorIndex := 19, attributes := #[] }, { accessFlags := 24, nameIndex := 72, descriptorIndex := 19, attributes := #[] }, { accessFlags := 24, nameIndex := 74, descriptorIndex := 19, attributes := #[] }, { accessFlags := 24, nameIndex := 76, descriptorIndex := 19, attributes := #[] }, { accessFlags := 24, nameIndex := 78, descriptorIndex := 19, attributes := #[] }, { accessFlags := 24, nameIndex := 80, descriptorIndex := 19, attributes := #[] }, { accessFlags := 26, nameIndex := 82, descriptorIndex := 19, attributes := #[] }, { accessFlags := 26, nameIndex := 84, descriptorIndex := 19, attributes := #[] }, { accessFlags := 18, nameIndex := 14, descriptorIndex := 15, attributes := #[] }, { accessFlags := 2, nameIndex := 18, descriptorIndex := 19, attributes := #[] }, { accessFlags := 18, nameIndex := 22, descriptorIndex := 19, attributes := #[] }])
  fields := #[{ name := "INTEGER", type := .int, accessFlags := 24, slot := 0, constantValue := 0 }, { name := "OCTET_STRING", type := .int, accessFlags := 24, slot := 1, constantValue := 0 }, { name := "NULL", type := .int, accessFlags := 24, slot := 2, constantValue := 0 }, { name := "OBJECT_IDENTIFIER", type := .int, accessFlags := 24, slot := 3, constantValue := 0 }, { name := "SEQUENCE", type := .int, accessFlags := 24, slot := 4, constantValue := 0 }, { name := "EXPLICIT_0", type := .int, accessFlags := 24, slot := 5, constantValue := 0 }, { name := "LONG_LENGTH", type := .int, accessFlags := 26, slot := 6, constantValue := 0 }, { name := "MAX_LENGTH_BYTES", type := .int, accessFlags := 26, slot := 7, constantValue := 0 }, { name := "bytes", type := (.array .byte), accessFlags := 18, slot := 0, constantValue := 0 }, { name := "at", type := .int, accessFlags := 2, slot := 1, constantValue := 0 }, { name := "end", type := .int, accessFlags := 18, slot := 2, constantValue := 0 }]
  methods := #[k2m0, k2m1, k2m2]
  instanceTypes := #[(.array .byte), .int, .int]
  staticTypes := #[.int, .int, .int, .int, .int, .int, .int, .int]
  resolved := Array.replicate 99 none
  statics := none }

def pool3 : Array CpInfo := pool [(1, u "java/lang/Cloneable"), (0, .class_ 1), (0, u "java/lang/Object"), (0, .class_ 3)] 3

/-- java/lang/Cloneable -/
def k3 : Class := { plain "java/lang/Cloneable" (some 0) with
  accessFlags := 1537
  interfaces := #[]
  cf := some (fileOf pool3 2 #[] #[] 1537 4 #[] #[])
  fields := #[]
  methods := #[]
  instanceTypes := #[]
  staticTypes := #[]
  resolved := Array.replicate 8 none
  statics := none }

def pool4 : Array CpInfo := pool [(1, u "java/io/Serializable"), (0, .class_ 1), (0, u "java/lang/Object"), (0, .class_ 3)] 3

/-- java/io/Serializable -/
def k4 : Class := { plain "java/io/Serializable" (some 0) with
  accessFlags := 1537
  interfaces := #[]
  cf := some (fileOf pool4 2 #[] #[] 1537 4 #[] #[])
  fields := #[]
  methods := #[]
  instanceTypes := #[]
  staticTypes := #[]
  resolved := Array.replicate 8 none
  statics := none }

/-- the primitive byte -/
def k5 : Class := { plain "byte" none with kind := .primitive 'B', accessFlags := 0x411 }
/-- [B -/
def k6 : Class := { plain "[B" (some 0) with kind := .array 5 .byte, interfaces := #[3, 4], accessFlags := 1041 }

/-- the primitive int -/
def k7 : Class := { plain "int" none with kind := .primitive 'I', accessFlags := 0x411 }
/-- [I -/
def k8 : Class := { plain "[I" (some 0) with kind := .array 7 .int, interfaces := #[3, 4], accessFlags := 1041 }

def heap : Heap := #[]
def classes : Array Class := #[k0, k1, k2, k3, k4, k5, k6, k7, k8]
def interned : List (Array UInt16 × Addr) := []
def slotsUsed : Nat := 0
def theMethod : MethodId := ⟨1, 1⟩
def args0 : Array Value := #[.int 1, .int 5, .int 7, .int 5, .int 0]
def aboutOver (below : List Frame) : State where
  vm := { classes := classes, interned := interned.toArray }
  heap := heap
  slotsUsed := slotsUsed
  threads := #[{ frames := .invoking theMethod args0 :: below }]
def below0 : List Frame := [.native { method := ⟨0, 0⟩, args := #[] }]
def about1 : State := aboutOver below0
def p0 : Program := .bare "" "" ""
def e0 : Env := launch0.env 0 0 0
theorem w_frames : about1.frames = Frame.invoking theMethod args0 :: below0 := rfl
set_option maxRecDepth 65536 in
theorem w_args : argsFit about1.vm theMethod args0 = true := by decide +kernel
set_option maxRecDepth 65536 in
theorem w_heap : heapFits about1 = true := by decide +kernel
set_option maxRecDepth 65536 in
theorem w_runnable : about1.curStatus? = some .runnable := by decide +kernel
set_option maxRecDepth 65536 in
theorem w_alone : about1.alone = true := by decide +kernel
set_option maxRecDepth 65536 in
theorem w_named : about1.methodNamed? x = some theMethod := by decide +kernel
set_option maxRecDepth 65536 in
theorem w_hears : about1.hears theMethod below0 = true := by decide +kernel
set_option maxRecDepth 65536 in
theorem w_ripe : about1.ripe theMethod args0 below0 = true := by decide +kernel
theorem w_running : about1.status = .running := rfl
set_option maxRecDepth 65536 in
theorem w_room : about1.hasRoom e0.platform room_1 = true :=
  launch0.hasRoom_least _ room_1 (by decide +kernel) (by decide +kernel) (by decide +kernel) (by decide +kernel) (by decide +kernel) (by decide +kernel)
theorem allAtoms_all (ts : List Jvm.Cond) (a : Array Jvm.Value) (st : Jvm.State) : (allAtoms ts).before a st = ts.all (fun c => c.before a st) := by
  induction ts with
  | nil => rfl
  | cons c t ih =>
    show (Jvm.Cond.and c (allAtoms t)).before a st = _
    rw [Jvm.Cond.before_and, ih, List.all_cons]
def words1 : List Jvm.Cond := Jvm.Cond.code x code maxLocals ret :: tables_1
/-- a 'code' word, met by the world's own term for the bytes: nothing is compared byte by byte -/
theorem code_word {y : MethodName} {bytes : ByteArray} {mx : Nat} {rt : Option FieldType} {a : Array Value} {s : State} {m : MethodId} {meth : Method} {c : Code} (h1 : s.methodNamed? y = some m) (h2 : s.vm.method? m = some meth) (h3 : meth.code = some c) (h4 : c.code = bytes)
    (h5 : (c.maxLocals == mx && c.exceptionTable.isEmpty && decide (c.maxStack ≤ mostOperands) && decide (meth.sig.returnType = rt) && !meth.locks && decide (parseMethodDescriptor y.desc = some meth.sig)) = true) : (Jvm.Cond.code y bytes mx rt).before a s = true := by
  simp only [Bool.and_eq_true, beq_iff_eq, Bool.not_eq_true', decide_eq_true_eq] at h5
  obtain ⟨⟨⟨⟨⟨g1, g2⟩, g3⟩, g4⟩, g5⟩, g6⟩ := h5
  simp [Cond.before, Cond.holds, Cond.value, h1, h2, h3, h4, g1, g2, g3, g4, g5, g6]
def isCode : Jvm.Cond → Bool
  | .code _ _ _ _ => true
  | _ => false
theorem all_split {L : List Jvm.Cond} {P : Jvm.Cond → Bool} (h1 : L.all (fun c => isCode c || P c) = true) (h2 : ∀ c ∈ L.filter isCode, P c = true) : L.all P = true := by
  refine List.all_eq_true.mpr fun c hc => ?_
  have h := List.all_eq_true.mp h1 c hc
  rcases Bool.eq_false_or_eq_true (isCode c) with hi | hi
  · exact h2 c (List.mem_filter.mpr ⟨hc, hi⟩)
  · simpa [hi] using h
set_option maxRecDepth 65536 in
theorem w_c0 : (Jvm.Cond.code x code maxLocals ret).before args0 about1 = true := code_word (m := ⟨1, 1⟩) (meth := k1m1) (c := k1c1) (by decide +kernel) rfl rfl rfl (by decide +kernel)
set_option maxRecDepth 65536 in
theorem w_c1 : (Jvm.Cond.code ({ cls := "com/example/middle_shelf/middleshelf/config/Der", name := "<init>", desc := "([B)V" } : Jvm.MethodName) prog_13_method_1_code (2 : Nat) (Option.none : Option Jvm.ClassFile.FieldType)).before args0 about1 = true := code_word (m := ⟨2, 0⟩) (meth := k2m0) (c := k2c0) (by decide +kernel) rfl rfl rfl (by decide +kernel)
set_option maxRecDepth 65536 in
theorem w_c2 : (Jvm.Cond.code ({ cls := "com/example/middle_shelf/middleshelf/config/Der", name := "<init>", desc := "([BII)V" } : Jvm.MethodName) prog_13_method_2_code (4 : Nat) (Option.none : Option Jvm.ClassFile.FieldType)).before args0 about1 = true := code_word (m := ⟨2, 1⟩) (meth := k2m1) (c := k2c1) (by decide +kernel) rfl rfl rfl (by decide +kernel)
set_option maxRecDepth 65536 in
theorem w_c3 : (Jvm.Cond.code ({ cls := "java/lang/Object", name := "<init>", desc := "()V" } : Jvm.MethodName) object_method_1_code (1 : Nat) (Option.none : Option Jvm.ClassFile.FieldType)).before args0 about1 = true := code_word (m := ⟨0, 0⟩) (meth := k0m0) (c := k0c0) (by decide +kernel) rfl rfl rfl (by decide +kernel)
set_option maxRecDepth 65536 in
theorem w_c4 : (Jvm.Cond.code ({ cls := "com/example/middle_shelf/middleshelf/config/Der", name := "startsWith", desc := "(I)Z" } : Jvm.MethodName) prog_13_method_3_code (2 : Nat) (Option.some Jvm.ClassFile.FieldType.boolean)).before args0 about1 = true := code_word (m := ⟨2, 2⟩) (meth := k2m2) (c := k2c2) (by decide +kernel) rfl rfl rfl (by decide +kernel)
def codes1 : List Jvm.Cond := [Jvm.Cond.code x code maxLocals ret, Jvm.Cond.code ({ cls := "com/example/middle_shelf/middleshelf/config/Der", name := "<init>", desc := "([B)V" } : Jvm.MethodName) prog_13_method_1_code (2 : Nat) (Option.none : Option Jvm.ClassFile.FieldType), Jvm.Cond.code ({ cls := "com/example/middle_shelf/middleshelf/config/Der", name := "<init>", desc := "([BII)V" } : Jvm.MethodName) prog_13_method_2_code (4 : Nat) (Option.none : Option Jvm.ClassFile.FieldType), Jvm.Cond.code ({ cls := "java/lang/Object", name := "<init>", desc := "()V" } : Jvm.MethodName) object_method_1_code (1 : Nat) (Option.none : Option Jvm.ClassFile.FieldType), Jvm.Cond.code ({ cls := "com/example/middle_shelf/middleshelf/config/Der", name := "startsWith", desc := "(I)Z" } : Jvm.MethodName) prog_13_method_3_code (2 : Nat) (Option.some Jvm.ClassFile.FieldType.boolean)]
set_option maxRecDepth 65536 in
theorem codes_eq : words1.filter isCode = codes1 := rfl
theorem w_codes : ∀ c ∈ words1.filter isCode, c.before args0 about1 = true := by
  rw [codes_eq]
  intro c hc
  simp only [codes1, List.mem_cons, List.not_mem_nil, or_false] at hc
  rcases hc with rfl | rfl | rfl | rfl | rfl
  · exact w_c0
  · exact w_c1
  · exact w_c2
  · exact w_c3
  · exact w_c4
set_option maxRecDepth 65536 in
theorem w_t1 : (words1.take 24).all (fun c => isCode c || c.before args0 about1) = true := by decide +kernel
set_option maxRecDepth 65536 in
theorem w_t2 : (words1.drop 24).all (fun c => isCode c || c.before args0 about1) = true := by decide +kernel
theorem w_tables : (allAtoms (Jvm.Cond.code x code maxLocals ret :: tables_1)).before args0 about1 = true := by
  rw [allAtoms_all]
  show words1.all (fun c => c.before args0 about1) = true
  refine all_split ?_ w_codes
  rw [← List.take_append_drop 24 words1, List.all_append, w_t1, w_t2]
  rfl
set_option maxRecDepth 65536 in
theorem w_case : (Jvm.Cond.and given_1 narrow_1).before args0 about1 = true := by decide +kernel
theorem w_applies : (headSpec (Jvm.Cond.code x code maxLocals ret :: tables_1) room_1).applies x e0.platform about1 = true :=
  (Spec.applies_iff w_frames).mpr ⟨w_running, w_runnable, w_alone, w_named, w_hears, w_ripe, w_room, w_tables⟩
theorem atStart : AtStart classFile x code maxLocals ret World_1 tables_1 room_1 Calls_1 rest_1 Pre_1 launch0 p0 e0 about1 theMethod args0 below0 :=
  ⟨lists_1, trivial, launch0.admits_env _ _ _, launch0.least_env, fairChoices_fair.cas, fairChoices_fair.clock, w_frames, w_args, w_heap, w_applies, trivial, trivial, w_case⟩
end start1
theorem witness_1 : WitnessClaimed_1 := ⟨start1.p0, start1.e0, start1.about1, start1.theMethod, start1.args0, start1.below0, start1.atStart⟩
end Jvm.Pilot.@@N@@
