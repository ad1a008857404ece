import JvmDerived
import JvmDerived.Pilot.@@N@@Statement
import JvmDerived.Pilot.@@N@@Code
set_option linter.unusedVariables false
set_option linter.unusedSimpArgs false
namespace Jvm.OwnWalk
open Sem ClassFile Op Lib Jvm.Stand Jvm.Free Jvm.LawKit Jvm.RoadKit
/-- from t the run comes to an end of which P holds -/
def Win (tb : Tables) (e : Env) (below : List Frame) (P : State → Outcome → Prop) (t : State) : Prop :=
  ∃ s₂ o, Steps tb e below t s₂ ∧ s₂.status = .running ∧ Ended s₂ below o ∧ P s₂ o
theorem Win.go {tb : Tables} {e : Env} {below : List Frame} {P : State → Outcome → Prop} {t t' : State} (st : ∀ z, Steps tb e below t' z → Steps tb e below t z) (w : Win tb e below P t') : Win tb e below P t := by
  obtain ⟨s2, o, h, r⟩ := w; exact ⟨s2, o, st _ h, r⟩
theorem Win.come {tb : Tables} {e : Env} {below : List Frame} {P : State → Outcome → Prop} {t t' : State} (st : Steps tb e below t t') (w : Win tb e below P t') : Win tb e below P t := by
  obtain ⟨s2, o, h, r⟩ := w; exact ⟨s2, o, st.trans h, r⟩
/-- the body has returned v with the heap h, L written -/
def PostQ (s : State) (Q : Option Value → Heap → List Loc → Prop) (C S : Nat) (u : State) (o : Outcome) : Prop := ∃ v L, o = .returned v ∧ Q v u.heap L ∧ FrameEnd s o u L C S
section Ret
variable {p : Program} {l : Launch} {e : Env} {R : Room} {s : State} {m : MethodId} {args : Array Value} {below : List Frame} {meth : Method} {c : Code} {T : State} {locs : List Loc} {cells slots : Nat} {h : Heap} {Q : Option Value → Heap → List Loc → Prop} {C S : Nat}
theorem retI' (X : Stand p l e R s m args below meth c T locs cells slots) (hx : p.tables.exec = Jvm.exec) {pc : Nat} {Ls : Array Slot} {z : Int32} {rest : List Value} (hret : meth.sig.returnType = some .int) (hd : decode c.code pc = .ok (.ireturn, 1)) {fs : List Frame}
    (hl : ∀ (f : JFrame) (acts : List Action), f.method = m → f.locked = none → f.entered = [] → (doReturn e (T.setTop f) acts (some (.int z))).1 = T.setFrames fs) : Steps p.tables e below (T.setTop (mkF m pc Ls (.int z :: rest))) (T.setFrames fs) := by
  have hm' : T.vm.method? m = some meth := X.method'
  have hn : narrow .int (.int z) = .int z := rfl
  show Steps p.tables e below (T.setTop { method := m, pc := pc, locals := Ls, stack := _ :: rest, locked := none }) _
  jvm_step X.here [X.here.top, hx, hd, hm', hret, hn]
  first | (intro acts; rw [hl _ acts rfl rfl rfl]) | rw [hl _ _ rfl rfl rfl]
  exact Steps.refl _
theorem retA' (X : Stand p l e R s m args below meth c T locs cells slots) (hx : p.tables.exec = Jvm.exec) {pc : Nat} {Ls : Array Slot} {w : Value} {t : FieldType} (hret : meth.sig.returnType = some t) (ht : t.isReference = true) (hv : w.isRef = true) (hd : decode c.code pc = .ok (.areturn, 1)) {fs : List Frame}
    (hl : ∀ (f : JFrame) (acts : List Action), f.method = m → f.locked = none → f.entered = [] → (doReturn e (T.setTop f) acts (some w)).1 = T.setFrames fs) : Steps p.tables e below (T.setTop (mkF m pc Ls [w])) (T.setFrames fs) := by
  have hm' : T.vm.method? m = some meth := X.method'
  show Steps p.tables e below (T.setTop { method := m, pc := pc, locals := Ls, stack := [w], locked := none }) _
  jvm_step X.here [X.here.top, hx, hd, hm', hret, hv, ht]
  first | (intro acts; rw [hl _ acts rfl rfl rfl]) | rw [hl _ _ rfl rfl rfl]
  exact Steps.refl _
theorem winI (X : Stand p l e R s m args below meth c T locs cells slots) (hx : p.tables.exec = Jvm.exec) (hlk : meth.locks = false) (eT : T.heap = h) {pc : Nat} {Ls : Array Slot} {z : Int32} {rest : List Value} (hret : meth.sig.returnType = some .int) (hd : decode c.code pc = .ok (.ireturn, 1))
    (hc : cells ≤ C) (hs : slots ≤ S) (hQ : Q (some (.int z)) h locs) : Win p.tables e below (PostQ s Q C S) (T.setTop (mkF m pc Ls (.int z :: rest))) := by
  subst eT
  obtain ⟨fs, hr, hrun, hended, hW, hsame⟩ := X.leave (v := some (.int z)) (fun h => by rw [hret] at h; cases h) hlk
  exact ⟨_, _, retI' X hx hret hd hr, hrun, hended, _, _, rfl, hQ, ⟨_, rfl⟩, hW, hsame.mono hc hs⟩
theorem winN (X : Stand p l e R s m args below meth c T locs cells slots) (hx : p.tables.exec = Jvm.exec) (hlk : meth.locks = false) (eT : T.heap = h) {pc : Nat} {Ls : Array Slot} {z z' : Int32} {rest : List Value} {t : FieldType} (hret : meth.sig.returnType = some t) (ht : t = .boolean ∨ t = .byte ∨ t = .char ∨ t = .short) (hd : decode c.code pc = .ok (.ireturn, 1))
    (hc : cells ≤ C) (hs : slots ≤ S) (hz : nar t z = z') (hQ : Q (some (.int z')) h locs) : Win p.tables e below (PostQ s Q C S) (T.setTop (mkF m pc Ls (.int z :: rest))) := by
  subst eT hz
  obtain ⟨fs, hr, hrun, hended, hW, hsame⟩ := X.leave (v := some (.int (nar t z))) (fun h => by rw [hret] at h; cases h) hlk
  exact ⟨_, _, retN X hx hret ht hd hr, hrun, hended, _, _, rfl, hQ, ⟨_, rfl⟩, hW, hsame.mono hc hs⟩
theorem winL (X : Stand p l e R s m args below meth c T locs cells slots) (hx : p.tables.exec = Jvm.exec) (hlk : meth.locks = false) (eT : T.heap = h) {pc : Nat} {Ls : Array Slot} {z : Int64} (hret : meth.sig.returnType = some .long) (hd : decode c.code pc = .ok (.lreturn, 1))
    (hc : cells ≤ C) (hs : slots ≤ S) (hQ : Q (some (.long z)) h locs) : Win p.tables e below (PostQ s Q C S) (T.setTop (mkF m pc Ls [.long z])) := by
  subst eT
  obtain ⟨fs, hr, hrun, hended, hW, hsame⟩ := X.leave (v := some (.long z)) (fun h => by rw [hret] at h; cases h) hlk
  exact ⟨_, _, X.lreturnOut hx hret hd hr, hrun, hended, _, _, rfl, hQ, ⟨_, rfl⟩, hW, hsame.mono hc hs⟩
theorem winA (X : Stand p l e R s m args below meth c T locs cells slots) (hx : p.tables.exec = Jvm.exec) (hlk : meth.locks = false) (eT : T.heap = h) {pc : Nat} {Ls : Array Slot} {w : Value} {t : FieldType} (hret : meth.sig.returnType = some t) (ht : t.isReference = true) (hv : w.isRef = true) (hd : decode c.code pc = .ok (.areturn, 1))
    (hc : cells ≤ C) (hs : slots ≤ S) (hQ : Q (some w) h locs) : Win p.tables e below (PostQ s Q C S) (T.setTop (mkF m pc Ls [w])) := by
  subst eT
  obtain ⟨fs, hr, hrun, hended, hW, hsame⟩ := X.leave (v := some w) (fun h => by rw [hret] at h; cases h) hlk
  exact ⟨_, _, retA' X hx hret ht hv hd hr, hrun, hended, _, _, rfl, hQ, ⟨_, rfl⟩, hW, hsame.mono hc hs⟩
theorem winV (X : Stand p l e R s m args below meth c T locs cells slots) (hx : p.tables.exec = Jvm.exec) (hlk : meth.locks = false) (eT : T.heap = h) {pc : Nat} {Ls : Array Slot} (hret : meth.sig.returnType = none) (hd : decode c.code pc = .ok (.return_, 1))
    (hc : cells ≤ C) (hs : slots ≤ S) (hQ : Q none h locs) : Win p.tables e below (PostQ s Q C S) (T.setTop (mkF m pc Ls [])) := by
  subst eT
  obtain ⟨fs, hr, hrun, hended, hW, hsame⟩ := X.leave (v := none) (fun _ => rfl) hlk
  exact ⟨_, _, X.returnOut hx hret hd hr, hrun, hended, _, _, rfl, hQ, ⟨_, rfl⟩, hW, hsame.mono hc hs⟩
def PostQW (s : State) (Q : Option Value → Heap → List Loc → Prop) (C S : Nat) (u : State) (o : Outcome) : Prop := ∃ v L, o = .returned v ∧ Q v u.heap L ∧ ReturnedEndW s o u L C S
theorem winNW {vm0 : Vm} {k0 : Nat} (hS : s.Since vm0 k0) (hk : k0 ≤ h.size) (X : Stand p l e R (s.setVm vm0) m args below meth c T locs cells slots) (hx : p.tables.exec = Jvm.exec) (hlk : meth.locks = false) (eT : T.heap = h) {pc : Nat} {Ls : Array Slot} {z z' : Int32} {rest : List Value} {t : FieldType} (hret : meth.sig.returnType = some t) (ht : t = .boolean ∨ t = .byte ∨ t = .char ∨ t = .short) (hd : decode c.code pc = .ok (.ireturn, 1))
    (hc : cells ≤ C) (hs : slots ≤ S) (hz : nar t z = z') (hQ : Q (some (.int z')) h locs) : Win p.tables e below (PostQW s Q C S) (T.setTop (mkF m pc Ls (.int z :: rest))) := by
  subst eT hz
  obtain ⟨fs, hr, hrun, hended, h1, h2, h3, h4⟩ := X.leaveW hS hk (v := some (.int (nar t z))) (fun h => by rw [hret] at h; cases h) hlk
  exact ⟨_, _, retN X hx hret ht hd hr, hrun, hended, _, _, rfl, hQ, ⟨_, rfl⟩, h2, h3, h4.mono hc hs⟩
end Ret
section Steps
variable {tb : Tables} [Ours tb] {e : Env} {below : List Frame} {P : State → Outcome → Prop} {T : State} {m : MethodId} {c : Code} {pc pc' : Nat} {ls : Array Slot} {st : List Value}
theorem s_iloadN {k : Fin 4} {v : Int32} (h : At T m c below) (hx : tb.exec = Jvm.exec) (hd : decode c.code pc = .ok (.iload_n k, 1)) (hp : pc + 1 = pc') (hl : ls[k.val]? = some (.val (.int v))) (w : Win tb e below P (T.setTop (mkF m pc' ls (.int v :: st)))) : Win tb e below P (T.setTop (mkF m pc ls st)) := by
  subst hp; exact Win.go (fun _ k => XS.iloadN h hx rfl hd hl k) w
theorem s_iload {k : Nat} {v : Int32} (h : At T m c below) (hx : tb.exec = Jvm.exec) (hd : decode c.code pc = .ok (.iload k, 2)) (hp : pc + 2 = pc') (hl : ls[k]? = some (.val (.int v))) (w : Win tb e below P (T.setTop (mkF m pc' ls (.int v :: st)))) : Win tb e below P (T.setTop (mkF m pc ls st)) := by
  subst hp; exact Win.go (fun _ k => XS.iload h hx rfl hd hl k) w
theorem s_lloadN {k : Fin 4} {v : Int64} (h : At T m c below) (hx : tb.exec = Jvm.exec) (hd : decode c.code pc = .ok (.lload_n k, 1)) (hp : pc + 1 = pc') (hl : ls[k.val]? = some (.val (.long v))) (w : Win tb e below P (T.setTop (mkF m pc' ls (.long v :: st)))) : Win tb e below P (T.setTop (mkF m pc ls st)) := by
  subst hp; exact Win.go (fun _ k => XS.lloadN h hx rfl hd hl k) w
theorem s_lload {k : Nat} {v : Int64} (h : At T m c below) (hx : tb.exec = Jvm.exec) (hd : decode c.code pc = .ok (.lload k, 2)) (hp : pc + 2 = pc') (hl : ls[k]? = some (.val (.long v))) (w : Win tb e below P (T.setTop (mkF m pc' ls (.long v :: st)))) : Win tb e below P (T.setTop (mkF m pc ls st)) := by
  subst hp; exact Win.go (fun _ k => XS.lload h hx rfl hd hl k) w
theorem s_aloadN {k : Fin 4} {v : Value} (h : At T m c below) (hx : tb.exec = Jvm.exec) (hd : decode c.code pc = .ok (.aload_n k, 1)) (hp : pc + 1 = pc') (hl : ls[k.val]? = some (.val v)) (hv : v.isRef = true) (w : Win tb e below P (T.setTop (mkF m pc' ls (v :: st)))) : Win tb e below P (T.setTop (mkF m pc ls st)) := by
  subst hp; exact Win.go (fun _ k => XS.aloadN h hx rfl hd hl hv k) w
theorem s_aload {k : Nat} {v : Value} (h : At T m c below) (hx : tb.exec = Jvm.exec) (hd : decode c.code pc = .ok (.aload k, 2)) (hp : pc + 2 = pc') (hl : ls[k]? = some (.val v)) (hv : v.isRef = true) (w : Win tb e below P (T.setTop (mkF m pc' ls (v :: st)))) : Win tb e below P (T.setTop (mkF m pc ls st)) := by
  subst hp; exact Win.go (fun _ k => XS.aload h hx rfl hd hl hv k) w
theorem s_iadd {x y : Int32} (h : At T m c below) (hx : tb.exec = Jvm.exec) (hd : decode c.code pc = .ok (.iadd, 1)) (hp : pc + 1 = pc') (w : Win tb e below P (T.setTop (mkF m pc' ls (.int (x + y) :: st)))) : Win tb e below P (T.setTop (mkF m pc ls (.int y :: .int x :: st))) := by
  subst hp; exact Win.go (fun _ k => XS.iadd h hx rfl hd rfl k) w
theorem s_isub {x y : Int32} (h : At T m c below) (hx : tb.exec = Jvm.exec) (hd : decode c.code pc = .ok (.isub, 1)) (hp : pc + 1 = pc') (w : Win tb e below P (T.setTop (mkF m pc' ls (.int (x - y) :: st)))) : Win tb e below P (T.setTop (mkF m pc ls (.int y :: .int x :: st))) := by
  subst hp; exact Win.go (fun _ k => XS.isub h hx rfl hd rfl k) w
theorem s_imul {x y : Int32} (h : At T m c below) (hx : tb.exec = Jvm.exec) (hd : decode c.code pc = .ok (.imul, 1)) (hp : pc + 1 = pc') (w : Win tb e below P (T.setTop (mkF m pc' ls (.int (x * y) :: st)))) : Win tb e below P (T.setTop (mkF m pc ls (.int y :: .int x :: st))) := by
  subst hp; exact Win.go (fun _ k => XS.imul h hx rfl hd rfl k) w
theorem s_iand {x y : Int32} (h : At T m c below) (hx : tb.exec = Jvm.exec) (hd : decode c.code pc = .ok (.iand, 1)) (hp : pc + 1 = pc') (w : Win tb e below P (T.setTop (mkF m pc' ls (.int (x &&& y) :: st)))) : Win tb e below P (T.setTop (mkF m pc ls (.int y :: .int x :: st))) := by
  subst hp; exact Win.go (fun _ k => XS.iand h hx rfl hd rfl k) w
theorem s_ior {x y : Int32} (h : At T m c below) (hx : tb.exec = Jvm.exec) (hd : decode c.code pc = .ok (.ior, 1)) (hp : pc + 1 = pc') (w : Win tb e below P (T.setTop (mkF m pc' ls (.int (x ||| y) :: st)))) : Win tb e below P (T.setTop (mkF m pc ls (.int y :: .int x :: st))) := by
  subst hp; exact Win.go (fun _ k => XS.ior h hx rfl hd rfl k) w
theorem s_ixor {x y : Int32} (h : At T m c below) (hx : tb.exec = Jvm.exec) (hd : decode c.code pc = .ok (.ixor, 1)) (hp : pc + 1 = pc') (w : Win tb e below P (T.setTop (mkF m pc' ls (.int (x ^^^ y) :: st)))) : Win tb e below P (T.setTop (mkF m pc ls (.int y :: .int x :: st))) := by
  subst hp; exact Win.go (fun _ k => XS.ixor h hx rfl hd rfl k) w
theorem s_ladd {x y : Int64} (h : At T m c below) (hx : tb.exec = Jvm.exec) (hd : decode c.code pc = .ok (.ladd, 1)) (hp : pc + 1 = pc') (w : Win tb e below P (T.setTop (mkF m pc' ls (.long (x + y) :: st)))) : Win tb e below P (T.setTop (mkF m pc ls (.long y :: .long x :: st))) := by
  subst hp; exact Win.go (fun _ k => XS.ladd h hx rfl hd rfl k) w
theorem s_lsub {x y : Int64} (h : At T m c below) (hx : tb.exec = Jvm.exec) (hd : decode c.code pc = .ok (.lsub, 1)) (hp : pc + 1 = pc') (w : Win tb e below P (T.setTop (mkF m pc' ls (.long (x - y) :: st)))) : Win tb e below P (T.setTop (mkF m pc ls (.long y :: .long x :: st))) := by
  subst hp; exact Win.go (fun _ k => XS.lsub h hx rfl hd rfl k) w
theorem s_lmul {x y : Int64} (h : At T m c below) (hx : tb.exec = Jvm.exec) (hd : decode c.code pc = .ok (.lmul, 1)) (hp : pc + 1 = pc') (w : Win tb e below P (T.setTop (mkF m pc' ls (.long (x * y) :: st)))) : Win tb e below P (T.setTop (mkF m pc ls (.long y :: .long x :: st))) := by
  subst hp; exact Win.go (fun _ k => XS.lmul h hx rfl hd rfl k) w
theorem s_land {x y : Int64} (h : At T m c below) (hx : tb.exec = Jvm.exec) (hd : decode c.code pc = .ok (.land, 1)) (hp : pc + 1 = pc') (w : Win tb e below P (T.setTop (mkF m pc' ls (.long (x &&& y) :: st)))) : Win tb e below P (T.setTop (mkF m pc ls (.long y :: .long x :: st))) := by
  subst hp; exact Win.go (fun _ k => XS.land h hx rfl hd rfl k) w
theorem s_lor {x y : Int64} (h : At T m c below) (hx : tb.exec = Jvm.exec) (hd : decode c.code pc = .ok (.lor, 1)) (hp : pc + 1 = pc') (w : Win tb e below P (T.setTop (mkF m pc' ls (.long (x ||| y) :: st)))) : Win tb e below P (T.setTop (mkF m pc ls (.long y :: .long x :: st))) := by
  subst hp; exact Win.go (fun _ k => XS.lor h hx rfl hd rfl k) w
theorem s_lxor {x y : Int64} (h : At T m c below) (hx : tb.exec = Jvm.exec) (hd : decode c.code pc = .ok (.lxor, 1)) (hp : pc + 1 = pc') (w : Win tb e below P (T.setTop (mkF m pc' ls (.long (x ^^^ y) :: st)))) : Win tb e below P (T.setTop (mkF m pc ls (.long y :: .long x :: st))) := by
  subst hp; exact Win.go (fun _ k => XS.lxor h hx rfl hd rfl k) w
theorem s_iconst {i : Int} {z : Int32} (h : At T m c below) (hx : tb.exec = Jvm.exec) (hd : decode c.code pc = .ok (.iconst i, 1)) (hp : pc + 1 = pc') (hz : Int32.ofInt i = z) (w : Win tb e below P (T.setTop (mkF m pc' ls (.int z :: st)))) : Win tb e below P (T.setTop (mkF m pc ls st)) := by
  subst hp hz; exact Win.go (fun _ k => XS.iconst h hx rfl hd k) w
theorem s_bipush {i : Int} {z : Int32} (h : At T m c below) (hx : tb.exec = Jvm.exec) (hd : decode c.code pc = .ok (.bipush i, 2)) (hp : pc + 2 = pc') (hz : (Int8.ofInt i).toInt32 = z) (w : Win tb e below P (T.setTop (mkF m pc' ls (.int z :: st)))) : Win tb e below P (T.setTop (mkF m pc ls st)) := by
  subst hp hz; exact Win.go (fun _ k => XS.bipush h hx rfl hd k) w
theorem s_sipush {i : Int} {z : Int32} (h : At T m c below) (hx : tb.exec = Jvm.exec) (hd : decode c.code pc = .ok (.sipush i, 3)) (hp : pc + 3 = pc') (hz : (Int16.ofInt i).toInt32 = z) (w : Win tb e below P (T.setTop (mkF m pc' ls (.int z :: st)))) : Win tb e below P (T.setTop (mkF m pc ls st)) := by
  subst hp hz; exact Win.go (fun _ k => XS.sipush h hx rfl hd k) w
theorem s_lconst {i : Fin 2} {z : Int64} (h : At T m c below) (hx : tb.exec = Jvm.exec) (hd : decode c.code pc = .ok (.lconst i, 1)) (hp : pc + 1 = pc') (hz : Int64.ofNat i = z) (w : Win tb e below P (T.setTop (mkF m pc' ls (.long z :: st)))) : Win tb e below P (T.setTop (mkF m pc ls st)) := by
  subst hp hz; exact Win.go (fun _ k => XS.lconst h hx rfl hd k) w
theorem s_goto {o : Int} (h : At T m c below) (hx : tb.exec = Jvm.exec) (hd : decode c.code pc = .ok (.goto o, 3)) (ho : 0 ≤ (pc : Int) + o) (hp : ((pc : Int) + o).toNat = pc') (w : Win tb e below P (T.setTop (mkF m pc' ls st))) : Win tb e below P (T.setTop (mkF m pc ls st)) := by
  exact Win.go (fun _ k => XS.goto h hx rfl rfl hd ho hp k) w
theorem s_icmpYes {cd : ClassFile.Cond} {o : Int} {x y : Int32} (h : At T m c below) (hx : tb.exec = Jvm.exec) (hd : decode c.code pc = .ok (.if_icmp cd o, 3)) (hc : if_icmp.holds cd x y = true) (ho : 0 ≤ (pc : Int) + o) (hp : ((pc : Int) + o).toNat = pc') (w : Win tb e below P (T.setTop (mkF m pc' ls st))) : Win tb e below P (T.setTop (mkF m pc ls (.int y :: .int x :: st))) := by
  exact Win.go (fun _ k => XS.icmpYes h hx rfl rfl hd rfl hc ho hp k) w
theorem s_icmpNo {cd : ClassFile.Cond} {o : Int} {x y : Int32} (h : At T m c below) (hx : tb.exec = Jvm.exec) (hd : decode c.code pc = .ok (.if_icmp cd o, 3)) (hp : pc + 3 = pc') (hc : if_icmp.holds cd x y = false) (w : Win tb e below P (T.setTop (mkF m pc' ls st))) : Win tb e below P (T.setTop (mkF m pc ls (.int y :: .int x :: st))) := by
  subst hp; exact Win.go (fun _ k => XS.icmpNo h hx rfl hd rfl hc k) w
theorem s_ifYes {cd : ClassFile.Cond} {o : Int} {x : Int32} (h : At T m c below) (hx : tb.exec = Jvm.exec) (hd : decode c.code pc = .ok (.ifCond cd o, 3)) (hc : ifCond.holds cd x = true) (ho : 0 ≤ (pc : Int) + o) (hp : ((pc : Int) + o).toNat = pc') (w : Win tb e below P (T.setTop (mkF m pc' ls st))) : Win tb e below P (T.setTop (mkF m pc ls (.int x :: st))) := by
  exact Win.go (fun _ k => XS.ifYes h hx rfl rfl hd rfl hc ho hp k) w
theorem s_ifNo {cd : ClassFile.Cond} {o : Int} {x : Int32} (h : At T m c below) (hx : tb.exec = Jvm.exec) (hd : decode c.code pc = .ok (.ifCond cd o, 3)) (hp : pc + 3 = pc') (hc : ifCond.holds cd x = false) (w : Win tb e below P (T.setTop (mkF m pc' ls st))) : Win tb e below P (T.setTop (mkF m pc ls (.int x :: st))) := by
  subst hp; exact Win.go (fun _ k => XS.ifNo h hx rfl hd rfl hc k) w
theorem s_lcmp {x y : Int64} (h : At T m c below) (hx : tb.exec = Jvm.exec) (hd : decode c.code pc = .ok (.lcmp, 1)) (hp : pc + 1 = pc') (w : Win tb e below P (T.setTop (mkF m pc' ls (.int (lcmpW x y) :: st)))) : Win tb e below P (T.setTop (mkF m pc ls (.long y :: .long x :: st))) := by
  subst hp; exact Win.go (fun _ k => XS.lcmp h hx rfl hd rfl k) w
theorem s_istore {k : Nat} {x : Int32} {l' : Array Slot} (h : At T m c below) (hx : tb.exec = Jvm.exec) (hd : decode c.code pc = .ok (.istore k, 2)) (hp : pc + 2 = pc') (hl : storeLocals ls k (.int x) = some l') (w : Win tb e below P (T.setTop (mkF m pc' l' st))) : Win tb e below P (T.setTop (mkF m pc ls (.int x :: st))) := by
  subst hp; exact Win.go (fun _ k => XS.istore h hx rfl hd rfl hl k) w
theorem s_istoreN {k : Fin 4} {x : Int32} {l' : Array Slot} (h : At T m c below) (hx : tb.exec = Jvm.exec) (hd : decode c.code pc = .ok (.istore_n k, 1)) (hp : pc + 1 = pc') (hl : storeLocals ls k.val (.int x) = some l') (w : Win tb e below P (T.setTop (mkF m pc' l' st))) : Win tb e below P (T.setTop (mkF m pc ls (.int x :: st))) := by
  subst hp; exact Win.go (fun _ k => XS.istoreN h hx rfl hd rfl hl k) w
theorem s_lstore {k : Nat} {x : Int64} {l' : Array Slot} (h : At T m c below) (hx : tb.exec = Jvm.exec) (hd : decode c.code pc = .ok (.lstore k, 2)) (hp : pc + 2 = pc') (hl : storeLocals ls k (.long x) = some l') (w : Win tb e below P (T.setTop (mkF m pc' l' st))) : Win tb e below P (T.setTop (mkF m pc ls (.long x :: st))) := by
  subst hp; exact Win.go (fun _ k => XS.lstore h hx rfl hd rfl hl k) w
theorem s_lstoreN {k : Fin 4} {x : Int64} {l' : Array Slot} (h : At T m c below) (hx : tb.exec = Jvm.exec) (hd : decode c.code pc = .ok (.lstore_n k, 1)) (hp : pc + 1 = pc') (hl : storeLocals ls k.val (.long x) = some l') (w : Win tb e below P (T.setTop (mkF m pc' l' st))) : Win tb e below P (T.setTop (mkF m pc ls (.long x :: st))) := by
  subst hp; exact Win.go (fun _ k => XS.lstoreN h hx rfl hd rfl hl k) w
theorem s_astore {k : Nat} {x : Value} {l' : Array Slot} (h : At T m c below) (hx : tb.exec = Jvm.exec) (hd : decode c.code pc = .ok (.astore k, 2)) (hp : pc + 2 = pc') (hv : x.isRef = true) (hl : storeLocals ls k x = some l') (w : Win tb e below P (T.setTop (mkF m pc' l' st))) : Win tb e below P (T.setTop (mkF m pc ls (x :: st))) := by
  subst hp; exact Win.go (fun _ k => XS.astore h hx rfl hd rfl hv hl k) w
theorem s_astoreN {k : Fin 4} {x : Value} {l' : Array Slot} (h : At T m c below) (hx : tb.exec = Jvm.exec) (hd : decode c.code pc = .ok (.astore_n k, 1)) (hp : pc + 1 = pc') (hv : x.isRef = true) (hl : storeLocals ls k.val x = some l') (w : Win tb e below P (T.setTop (mkF m pc' l' st))) : Win tb e below P (T.setTop (mkF m pc ls (x :: st))) := by
  subst hp; exact Win.go (fun _ k => XS.astoreN h hx rfl hd rfl hv hl k) w
theorem s_dup {x : Value} (h : At T m c below) (hx : tb.exec = Jvm.exec) (hd : decode c.code pc = .ok (.dup, 1)) (hp : pc + 1 = pc') (hc : x.category = 1) (w : Win tb e below P (T.setTop (mkF m pc' ls (x :: x :: st)))) : Win tb e below P (T.setTop (mkF m pc ls (x :: st))) := by
  subst hp; exact Win.go (fun _ k => XS.dup h hx rfl hd rfl hc k) w
end Steps
/-- an array of ints by its places: place j holds f j -/
def AF (Z : State) (h : Heap) (a : Addr) (ty : FieldType) (n : Nat) (f : Int → Int32) : Prop := ∃ cl : Cell, Arr Z h a cl ty ∧ cl.slots.size = n ∧ ∀ j : Int32, 0 ≤ j.toInt → j.toInt < n → cl.slots[j.toNatClampNeg]? = some (.int (f j.toInt))
section AFs
variable {Z : State} {h h' : Heap} {a b : Addr} {ty : FieldType} {n : Nat} {f : Int → Int32} {ws : List Addr} {sl : Nat} {v : Value}
theorem AF.lt (F : AF Z h a ty n f) : a < h.size := by obtain ⟨c, A, -⟩ := F; exact A.lt
theorem AF.ext (F : AF Z h a ty n f) (E : Ext h h') : AF Z h' a ty n f := by obtain ⟨c, A, r⟩ := F; exact ⟨c, A.ext E, r⟩
theorem AF.other (F : AF Z h b ty n f) (W : Wr h h' a sl v) (q : b ≠ a) : AF Z h' b ty n f := by obtain ⟨c, A, r⟩ := F; exact ⟨c, A.other W q, r⟩
theorem AF.keep (F : AF Z h a ty n f) (K : Keep h h' ws) (q : a ∉ ws) : AF Z h' a ty n f := by obtain ⟨c, A, r⟩ := F; exact ⟨c, ⟨K.2.1 a c A.1 q, A.2⟩, r⟩
theorem AF.inb {c : Cell} {j : Int32} (S : c.slots.size = n) (q : 0 ≤ j.toInt ∧ j.toInt < n) : ¬ (j < 0 ∨ c.slots.size ≤ j.toNatClampNeg) := by
  rw [S, Int32.lt_iff_toInt_lt]; have e0 : (0 : Int32).toInt = 0 := rfl
  simp only [Int32.toNatClampNeg]; omega
def updF (f : Int → Int32) (j : Int) (v : Int32) : Int → Int32 := fun i => if i = j then v else f i
theorem updF_hit (f : Int → Int32) (j : Int) (v : Int32) : updF f j v j = v := if_pos rfl
theorem updF_miss {f : Int → Int32} {i j : Int} {v : Int32} (q : i ≠ j) : updF f j v i = f i := if_neg q
theorem AF.set {cl : Cell} {j v : Int32} (A : Arr Z h a cl ty) (S : cl.slots.size = n) (G : ∀ j : Int32, 0 ≤ j.toInt → j.toInt < n → cl.slots[j.toNatClampNeg]? = some (.int (f j.toInt))) (W : Wr h h' a j.toNatClampNeg (.int v)) (q : 0 ≤ j.toInt ∧ j.toInt < n) : AF Z h' a ty n (updF f j.toInt v) := by
  have e0 : (0 : Int32).toInt = 0 := rfl
  refine ⟨_, A.same W, by rw [sz_set]; exact S, fun k h0 h1 => ?_⟩
  by_cases e : k = j
  · subst e; rw [get_hit (AF.inb S q) rfl, updF_hit]
  · rw [get_miss (by rw [Int32.lt_iff_toInt_lt]; omega) (by rw [Int32.lt_iff_toInt_lt]; omega) e, updF_miss (fun z => e (Int32.toInt_inj.mp z))]; exact G k h0 h1
theorem AF.zero {k : ClassId} {z : Int32} (F : Arv Z h a k ty z [] (.int 0)) (q : z.toNatClampNeg = n) : AF Z h a ty n (fun _ => 0) := by
  obtain ⟨c, A, -, S, -, H, -⟩ := F
  refine ⟨c, A, S.trans q, fun j h0 h1 => ?_⟩
  have e : j.toNatClampNeg = j.toInt.toNat := rfl
  exact H _ (by rw [S, q, e]; omega)
theorem AF.ex {k : ClassId} {z : Int32} {vs : List Value} {dv : Value} (F : Arv Z h a k .byte z vs dv) (q : z.toNatClampNeg = n) : ∃ f, AF Z h a .byte n f := by
  obtain ⟨c, A, -, S, -, H, G⟩ := F
  refine ⟨fun i => match c.slots[i.toNat]? with | some (.int x) => x | _ => 0, c, A, S.trans q, fun j h0 h1 => ?_⟩
  have e : j.toNatClampNeg = j.toInt.toNat := rfl
  have hj : j.toInt.toNat < c.slots.size := by rw [S, q]; omega
  have e1 := H _ hj
  have e2 := G _ hj
  show c.slots[j.toInt.toNat]? = some (.int (match c.slots[j.toInt.toNat]? with | some (.int x) => x | _ => 0))
  cases hv : vs.getD j.toInt.toNat dv <;> rw [hv] at e1 e2 <;> first | (rw [e1]; done) | (exact absurd e2 (by simp [fits]))
/-- a byte array of length z -/
def BA (Z : State) (h : Heap) (a : Addr) (z : Int32) : Prop := ∃ (k : ClassId) (vs : List Value), Arv Z h a k .byte z vs (.int 0)
variable {z : Int32}
theorem BA.lt (F : BA Z h a z) : a < h.size := by obtain ⟨_, _, A⟩ := F; exact A.lt
theorem BA.ext (F : BA Z h a z) (E : Ext h h') : BA Z h' a z := by obtain ⟨k, vs, A⟩ := F; exact ⟨k, vs, A.ext E⟩
theorem BA.other (F : BA Z h b z) (W : Wr h h' a sl v) (q : b ≠ a) : BA Z h' b z := by obtain ⟨k, vs, A⟩ := F; exact ⟨k, vs, A.other W q⟩
theorem BA.keep (F : BA Z h a z) (K : Keep h h' ws) (q : a ∉ ws) : BA Z h' a z := by obtain ⟨k, vs, A⟩ := F; exact ⟨k, vs, A.keep K q⟩
theorem cpBA {p : Program} {l : Launch} {e : Env} {R : Room} {s : State} {m : MethodId} {args : Array Value} {below : List Frame} {meth : Method} {c : Code} {T : State} {locs : List Loc} {cells slots : Nat}
    (X : Stand p l e R s m args below meth c T locs cells slots) (hx : p.tables.exec = Jvm.exec) (hZ : Z.Warmed39 s.vm) {a0 : Array Value} {own : String} {index : Nat} (hown : s.vm.findClass own = some m.cls)
    (w1 : (Cond.methodLink own index Jvm.Stand.acN).before a0 Z = true) (w2 : (Cond.native Jvm.Stand.acN).before a0 Z = true) (w3 : (Cond.static Jvm.Stand.acN).before a0 Z = true) (w4 : (Cond.initialized "java/lang/System").before a0 Z = true) (eT : T.heap = h)
    {z' sp dp nn : Int32} (A : BA Z h a z) (B : BA Z h b z') (h1 : 0 ≤ sp.toInt) (h2 : 0 ≤ dp.toInt) (h3 : 0 ≤ nn.toInt) (h4 : sp.toInt + nn.toInt ≤ z.toInt) (h5 : dp.toInt + nn.toInt ≤ z'.toInt) {n0 : Nat} (N : Fr n0 locs) (ge : n0 ≤ b)
    {g : JFrame} (hg : g.method = m) (hsize : g.locals.size = c.maxLocals) {rest : List Value} (hs : g.stack = .int nn :: .int dp :: .ref b :: .int sp :: .ref a :: rest) (hd : decode c.code g.pc = .ok (.invokestatic index, 3))
    (hf : 1 ≤ R.frames) {W : Nat} (hW : 2 * g.monitorRoom + (rest.map fun v => v.category).sum ≤ W) (hlo : W + (nativeFrameWords "java/lang/System" "arraycopy" 5 + 11) ≤ R.locals) :
    ∃ T' h' L, Stand p l e R s m args below meth c T' L cells slots ∧ T'.heap = h' ∧ Fr n0 L ∧ Keep h h' [b] ∧ BA Z h' b z' ∧
      ∀ target, Steps p.tables e below (T'.setTop { g with pc := g.pc + 3, stack := rest }) target → Steps p.tables e below (T.setTop g) target := by
  have e0 : (0 : Int32).toInt = 0 := rfl
  obtain ⟨k, vs, A⟩ := A
  obtain ⟨k', vd, B⟩ := B
  have B' := B.pad (pad_rep vd (.int 0) z'.toNatClampNeg)
  obtain ⟨T', h', L, X', e', N', K, B2, st⟩ := cpA X hx hZ hown w1 w2 w3 w4 eT A B' (Or.inl ⟨rfl, rfl⟩) (by rw [Int32.lt_iff_toInt_lt]; omega) (by rw [Int32.lt_iff_toInt_lt]; omega) (by rw [Int32.lt_iff_toInt_lt]; omega) (by simp only [Int32.toNatClampNeg]; omega) (by simp only [Int32.toNatClampNeg]; omega) rfl (by simp only [List.length_append, List.length_replicate, Int32.toNatClampNeg]; omega) N ge hg hsize hs hd hf hW hlo
  exact ⟨T', h', L, X', e', N', K, ⟨k', _, B2⟩, st⟩
end AFs
theorem own_selPriv {s : State} {args : Array Value} {y y' : MethodName} (hn : y.cls = y'.cls) (w : (Cond.selects y'.cls y' y').before args s = true) (hpriv : s.PrivateAt y) (hinst : (Cond.instanceMethod y).before args s = true) (hy : y.cls ≠ "java/lang/invoke/MethodHandle" ∧ y.cls ≠ "java/lang/invoke/VarHandle") : (Cond.selects y.cls y y).before args s = true := by
  obtain ⟨c, r, m, h1, -, h3, -, k, h5, h6⟩ := Cond.selects_spec w
  have h7 := findClass_of_methodNamed h3
  cases h1.symm.trans h7
  exact selects_self_of_private (by rw [hn]; exact h7) h5 h6 hpriv hinst hy
theorem own_lremEq (x y : Int64) : x - (x / y) * y = x % y := by
  refine Int64.toInt_inj.mp ?_
  have h1 := rng64 (x % y)
  have e : x.toInt - x.toInt.tdiv y.toInt * y.toInt = (x % y).toInt := by rw [Int64.toInt_mod, Int.tmod_def, Int.mul_comm]
  rw [Int64.toInt_sub, Int64.toInt_mul, Int64.toInt_div, Int.bmod_mul_bmod, Int.sub_bmod_bmod, e]
  exact Int.bmod_eq_of_le_mul_two (by omega) (by omega)
theorem lremM {p : Program} {l : Launch} {e : Env} {R : Room} {s : State} {m : MethodId} {args : Array Value} {below : List Frame} {meth : Method} {c : Code} {T : State} {locs : List Loc} {cells slots : Nat} {g : JFrame} {target : State} (X : Stand p l e R s m args below meth c T locs cells slots) (hx : p.tables.exec = Jvm.exec) (hg : g.method = m) {x y : Int64} {rest : List Value} (hd : decode c.code g.pc = .ok (.lrem, 1)) (hs : g.stack = .long y :: .long x :: rest) (hy : y ≠ 0)
    (hr : Steps p.tables e below (T.setTop { g with pc := g.pc + 1, stack := .long (x % y) :: rest }) target) : Steps p.tables e below (T.setTop g) target :=
  XS.lrem X.here hx hg hd hs hy (by rw [own_lremEq]; exact hr)
/-! comparisons by the numbers -/
theorem tltI {x y : Int32} (h : x.toInt < y.toInt) : if_icmp.holds .lt x y = true ∧ if_icmp.holds .ge x y = false ∧ if_icmp.holds .gt y x = true ∧ if_icmp.holds .le y x = false := tlt (Int32.lt_iff_toInt_lt.mpr h)
theorem fltI {x y : Int32} (h : ¬ x.toInt < y.toInt) : if_icmp.holds .lt x y = false ∧ if_icmp.holds .ge x y = true ∧ if_icmp.holds .gt y x = false ∧ if_icmp.holds .le y x = true := flt (fun q => h (Int32.lt_iff_toInt_lt.mp q))
theorem teqI {x y : Int32} (h : x.toInt = y.toInt) : if_icmp.holds .eq x y = true ∧ if_icmp.holds .ne x y = false := teq (Int32.toInt_inj.mp h)
theorem feqI {x y : Int32} (h : ¬ x.toInt = y.toInt) : if_icmp.holds .eq x y = false ∧ if_icmp.holds .ne x y = true := feq (fun q => h (congrArg _ q))
theorem tltZ {x y : Int32} (h : x.toInt < y.toInt) : (y = 0 → ifCond.holds .lt x = true ∧ ifCond.holds .ge x = false) ∧ (x = 0 → ifCond.holds .gt y = true ∧ ifCond.holds .le y = false) :=
  ⟨fun q => by subst q; exact ⟨(if0 _ _).trans (tltI h).1, (if0 _ _).trans (tltI h).2.1⟩, fun q => by subst q; exact ⟨(if0 _ _).trans (tltI h).2.2.1, (if0 _ _).trans (tltI h).2.2.2⟩⟩
theorem tltL {x y : Int64} (h : x.toInt < y.toInt) : ifCond.holds .lt (lcmpW x y) = true ∧ ifCond.holds .ge (lcmpW x y) = false ∧ ifCond.holds .gt (lcmpW y x) = true ∧ ifCond.holds .le (lcmpW y x) = false :=
  have h' := Int64.lt_iff_toInt_lt.mpr h
  ⟨(if0 _ _).trans (tlt ((lw_lt x y).mpr h')).1, (if0 _ _).trans (tlt ((lw_lt x y).mpr h')).2.1, (if0 _ _).trans (tlt ((lw_gt y x).mpr h')).2.2.1, (if0 _ _).trans (tlt ((lw_gt y x).mpr h')).2.2.2⟩
theorem fltL {x y : Int64} (h : ¬ x.toInt < y.toInt) : ifCond.holds .lt (lcmpW x y) = false ∧ ifCond.holds .ge (lcmpW x y) = true ∧ ifCond.holds .gt (lcmpW y x) = false ∧ ifCond.holds .le (lcmpW y x) = true :=
  have h1 : ¬ lcmpW x y < 0 := fun q => h (Int64.lt_iff_toInt_lt.mp ((lw_lt x y).mp q))
  have h2 : ¬ 0 < lcmpW y x := fun q => h (Int64.lt_iff_toInt_lt.mp ((lw_gt y x).mp q))
  ⟨(if0 _ _).trans (flt h1).1, (if0 _ _).trans (flt h1).2.1, (if0 _ _).trans (flt h2).2.2.1, (if0 _ _).trans (flt h2).2.2.2⟩
theorem teqL {x y : Int64} (h : x.toInt = y.toInt) : ifCond.holds .eq (lcmpW x y) = true ∧ ifCond.holds .ne (lcmpW x y) = false :=
  have h' := (lw_eq x y).mpr (Int64.toInt_inj.mp h)
  ⟨(if0 _ _).trans (teq h').1, (if0 _ _).trans (teq h').2⟩
theorem feqL {x y : Int64} (h : ¬ x.toInt = y.toInt) : ifCond.holds .eq (lcmpW x y) = false ∧ ifCond.holds .ne (lcmpW x y) = true :=
  have h' : ¬ lcmpW x y = 0 := fun q => h (congrArg _ ((lw_eq x y).mp q))
  ⟨(if0 _ _).trans (feq h').1, (if0 _ _).trans (feq h').2⟩
end Jvm.OwnWalk
namespace Jvm.Pilot.@@N@@
open Jvm Jvm.ClassFile Sem Op Lib Jvm.Free Jvm.Stand Jvm.LawKit Jvm.RoadKit Bundle Jvm.OwnWalk Jvm.Pilot.@@N@@.Jvm.D
theorem own_zadd (a : Int32) : (0 : Int32) + a = a := Int32.zero_add a
theorem own_sp {x y : Int32} (hx : 0 ≤ x.toInt ∧ x.toInt ≤ 62) (h0 : 0 ≤ y.toInt) (h1 : y.toInt ≤ 31) : (x + y).toInt = x.toInt + y.toInt := by
  have h1 := c_iadd x y
  have h2 := rng32 (x + y)
  omega
theorem own_mx {x y : Int32} (hx : 0 ≤ x.toInt ∧ x.toInt ≤ 62) (h1 : y.toInt ≤ 31) (h : ((2147483639 : Int32) - x).toInt < y.toInt) : False := by
  have h2 := c_isub 2147483639 x
  have h3 := rng32 (2147483639 - x)
  have h4 : (2147483639 : Int32).toInt = 2147483639 := rfl
  omega
theorem own_m0 {y : Int} (h1 : y ≤ 31) (h : (2147483639 : Int) < y) : False := by omega
theorem own_c4 {q : Int} (h : q ≤ 31) : (0 : Int32).toInt + q ≤ (32 : Int32).toInt := by
  have e0 : (0 : Int32).toInt = 0 := rfl
  have e1 : (32 : Int32).toInt = 32 := rfl
  omega
theorem own_abi {a b : Int32} (ha : 0 ≤ a.toInt ∧ a.toInt ≤ 31) (hb : 0 ≤ b.toInt ∧ b.toInt ≤ 31) : 0 ≤ (a + b).toInt ∧ (a + b).toInt ≤ 62 := by
  have h1 := c_iadd a b
  have h2 := rng32 (a + b)
  omega
theorem own_gp_0 {z s q t : Int} (h : 0 ≤ q ∧ q ≤ 31 ∧ 16 ≤ z ∧ z ≤ 16) (hs : 0 ≤ s ∧ s ≤ 0) (ht : t = s + q) : 0 ≤ z ∧ z ≤ 1000 ∧ 0 ≤ t ∧ t ≤ 1000 := by omega
theorem own_nb_0 {z s q t g : Int} (h : 0 ≤ q ∧ q ≤ 31 ∧ 16 ≤ z ∧ z ≤ 16) (hs : 0 ≤ s ∧ s ≤ 0) (ht : t = s + q) (hg : 2 * z ≤ g ∧ t ≤ g ∧ (g = 2 * z ∨ g = t)) : 0 ≤ z ∧ z < g ∧ g ≤ 128 := by omega
theorem own_lf_0 {z s q t g : Int} (h : 0 ≤ q ∧ q ≤ 31 ∧ 16 ≤ z ∧ z ≤ 16) (hs : 0 ≤ s ∧ s ≤ 0) (ht : t = s + q) (hg : 2 * z ≤ g ∧ t ≤ g ∧ (g = 2 * z ∨ g = t)) : 16 ≤ g ∧ g ≤ 32 := by omega
theorem own_gp_1 {z s q t : Int} (h : 0 ≤ q ∧ q ≤ 31 ∧ 16 ≤ z ∧ z ≤ 32) (hs : 0 ≤ s ∧ s ≤ 31) (ht : t = s + q) : 0 ≤ z ∧ z ≤ 1000 ∧ 0 ≤ t ∧ t ≤ 1000 := by omega
theorem own_nb_1 {z s q t g : Int} (h : 0 ≤ q ∧ q ≤ 31 ∧ 16 ≤ z ∧ z ≤ 32) (hs : 0 ≤ s ∧ s ≤ 31) (ht : t = s + q) (hg : 2 * z ≤ g ∧ t ≤ g ∧ (g = 2 * z ∨ g = t)) : 0 ≤ z ∧ z < g ∧ g ≤ 128 := by omega
theorem own_lf_1 {z s q t g : Int} (h : 0 ≤ q ∧ q ≤ 31 ∧ 16 ≤ z ∧ z ≤ 32) (hs : 0 ≤ s ∧ s ≤ 31) (ht : t = s + q) (hg : 2 * z ≤ g ∧ t ≤ g ∧ (g = 2 * z ∨ g = t)) : 16 ≤ g ∧ g ≤ 64 := by omega
theorem own_gp_2 {z s q t : Int} (h : 0 ≤ q ∧ q ≤ 31 ∧ 16 ≤ z ∧ z ≤ 64) (hs : 0 ≤ s ∧ s ≤ 62) (ht : t = s + q) : 0 ≤ z ∧ z ≤ 1000 ∧ 0 ≤ t ∧ t ≤ 1000 := by omega
theorem own_nb_2 {z s q t g : Int} (h : 0 ≤ q ∧ q ≤ 31 ∧ 16 ≤ z ∧ z ≤ 64) (hs : 0 ≤ s ∧ s ≤ 62) (ht : t = s + q) (hg : 2 * z ≤ g ∧ t ≤ g ∧ (g = 2 * z ∨ g = t)) : 0 ≤ z ∧ z < g ∧ g ≤ 128 := by omega
theorem own_lf_2 {z s q t g : Int} (h : 0 ≤ q ∧ q ≤ 31 ∧ 16 ≤ z ∧ z ≤ 64) (hs : 0 ≤ s ∧ s ≤ 62) (ht : t = s + q) (hg : 2 * z ≤ g ∧ t ≤ g ∧ (g = 2 * z ∨ g = t)) : 16 ≤ g ∧ g ≤ 128 := by omega
theorem d1_0 : decode prog_38_method_1_code 0 = .ok (.aload_n 0, 1) := by decide +kernel
theorem d1_1 : decode prog_38_method_1_code 1 = .ok (.invokespecial 1, 3) := by decide +kernel
theorem d1_4 : decode prog_38_method_1_code 4 = .ok (.aload_n 0, 1) := by decide +kernel
theorem d1_5 : decode prog_38_method_1_code 5 = .ok (.bipush 16, 2) := by decide +kernel
theorem d1_7 : decode prog_38_method_1_code 7 = .ok (.newarray .byte, 2) := by decide +kernel
theorem d1_9 : decode prog_38_method_1_code 9 = .ok (.putfield 7, 3) := by decide +kernel
theorem d1_12 : decode prog_38_method_1_code 12 = .ok (.aload_n 0, 1) := by decide +kernel
theorem d1_13 : decode prog_38_method_1_code 13 = .ok (.bipush 16, 2) := by decide +kernel
theorem d1_15 : decode prog_38_method_1_code 15 = .ok (.newarray .int, 2) := by decide +kernel
theorem d1_17 : decode prog_38_method_1_code 17 = .ok (.putfield 13, 3) := by decide +kernel
theorem d1_20 : decode prog_38_method_1_code 20 = .ok (.aload_n 0, 1) := by decide +kernel
theorem d1_21 : decode prog_38_method_1_code 21 = .ok (.bipush 16, 2) := by decide +kernel
theorem d1_23 : decode prog_38_method_1_code 23 = .ok (.newarray .int, 2) := by decide +kernel
theorem d1_25 : decode prog_38_method_1_code 25 = .ok (.putfield 17, 3) := by decide +kernel
theorem d1_28 : decode prog_38_method_1_code 28 = .ok (.aload_n 0, 1) := by decide +kernel
theorem d1_29 : decode prog_38_method_1_code 29 = .ok (.bipush 16, 2) := by decide +kernel
theorem d1_31 : decode prog_38_method_1_code 31 = .ok (.newarray .int, 2) := by decide +kernel
theorem d1_33 : decode prog_38_method_1_code 33 = .ok (.putfield 20, 3) := by decide +kernel
theorem d1_36 : decode prog_38_method_1_code 36 = .ok (.return_, 1) := by decide +kernel
theorem pn_1 : plainName "com/example/nearstable/nearstable/files/StringBatch" = true := by first | (simp [plainName, overriddenIn]; done) | decide +kernel
theorem ef_1 (m : MethodId) (a : Addr) : entryFrame m #[(.ref a)] 1 = mkF m 0 #[.val (.ref a)] [] := by first | (simp [entryFrame, mkF, argsToLocals, Value.category]; done) | rfl
def Q1 (Z : State) (a : Addr) (h0 : Heap) (n0 : Nat) (v : Option Value) (h : Heap) (L : List Loc) : Prop := Fr n0 L ∧ Keep h0 h [a] ∧ (∃ (bt : Addr) (en : Addr) (li : Addr), (n0 ≤ bt) ∧ (h0.size ≤ bt) ∧ (n0 ≤ en) ∧ (h0.size ≤ en) ∧ (n0 ≤ li) ∧ (h0.size ≤ li) ∧ (bt ≠ en) ∧ (bt ≠ li) ∧ (en ≠ li) ∧ (Fld Z h a "com/example/nearstable/nearstable/files/StringBatch" "bytes" "[B" (.ref bt)) ∧ (Fld Z h a "com/example/nearstable/nearstable/files/StringBatch" "ends" "[I" (.ref en)) ∧ (Fld Z h a "com/example/nearstable/nearstable/files/StringBatch" "lines" "[I" (.ref li)) ∧ (Fld Z h a "com/example/nearstable/nearstable/files/StringBatch" "count" "I" (.int (0 : Int32))) ∧ (BA Z h bt (16 : Int32)) ∧ (AF Z h en .int 16 (fun _ => 0)) ∧ (AF Z h li .int 16 (fun _ => 0))) ∧ v = none
set_option maxRecDepth 65536 in
set_option maxHeartbeats 40000000 in
theorem rm1 (l : Launch) (Z : State) (a0 : Array Value) (hw : ∀ d ∈ tables_1, d.before a0 Z = true) (ws : List Jvm.Cond) (a : Addr) (h0 : Heap) (n0 : Nat) (Zs : n0 ≤ h0.size) (E_a : Exa Z h0 a "com/example/nearstable/nearstable/files/StringBatch") (F_bytes_a : Fld Z h0 a "com/example/nearstable/nearstable/files/StringBatch" "bytes" "[B" .null) (F_ends_a : Fld Z h0 a "com/example/nearstable/nearstable/files/StringBatch" "ends" "[I" .null) (F_lines_a : Fld Z h0 a "com/example/nearstable/nearstable/files/StringBatch" "lines" "[I" .null) (F_ids_a : Fld Z h0 a "com/example/nearstable/nearstable/files/StringBatch" "ids" "[I" .null) (F_count_a : Fld Z h0 a "com/example/nearstable/nearstable/files/StringBatch" "count" "I" (.int (0 : Int32))) (g_a : n0 ≤ a) :
    MetFree l (⟨"com/example/nearstable/nearstable/files/StringBatch", "<init>", "()V"⟩ : MethodName) (head1 (Jvm.Cond.code (⟨"com/example/nearstable/nearstable/files/StringBatch", "<init>", "()V"⟩ : MethodName) prog_38_method_1_code 1 none :: ws) ({ frames := 1, cells := 4, slots := 64, locals := 12 } : Room)) (fun as' U => as' = #[(.ref a)] ∧ Z.Warmed39 U.vm ∧ U.heap = h0) (fun _ _ _ _ _ => True) (fun _ U o U' => ∃ v L, o = .returned v ∧ Q1 Z a h0 n0 v U'.heap L ∧ FrameEnd U o U' L ({ frames := 1, cells := 4, slots := 64, locals := 12 } : Room).cells ({ frames := 1, cells := 4, slots := 64, locals := 12 } : Room).slots) := by
  refine MetFree.of_bodySF (plainFor_of_name pn_1) hisR ?_
  intro p e s m args below meth c s₁ Bd hml0 hP hK
  obtain ⟨rfl, hZ, hh⟩ := hP
  have hx := Bd.exec
  have hby := Bd.bytes
  have hml : c.maxLocals = 1 := hml0
  have hown : s.vm.findClass "com/example/nearstable/nearstable/files/StringBatch" = some m.cls := findClass_of_methodNamed Bd.named
  have hnm := (name_of_methodNamed Bd.named Bd.method).1
  have hlk : meth.locks = false := Bd.notSynchronized
  have X0 : Stand p l e ({ frames := 1, cells := 4, slots := 64, locals := 12 } : Room) s m #[(.ref a)] below meth c s₁ [] 0 0 := Stand.of_body Bd
  have e0 : s₁.heap = h0 := by rw [← hh, Bd.state]; rfl
  have Nf := Fr.nil n0
  refine (?_ : Win p.tables e below (PostQ s (Q1 Z a h0 n0) ({ frames := 1, cells := 4, slots := 64, locals := 12 } : Room).cells ({ frames := 1, cells := 4, slots := 64, locals := 12 } : Room).slots) (s₁.setTop (entryFrame m #[(.ref a)] 1)))
  rw [ef_1]
  have Kp : Keep h0 h0 [a] := Keep.refl h0 _
  have lt_a : a < h0.size := E_a.lt
  show Win p.tables e below _ (s₁.setTop (mkF m 0 #[.val (.ref a)] []))
  refine s_aloadN (pc' := 1) X0.here hx (hb hby d1_0) rfl rfl rfl ?_
  obtain ⟨T_1, X_1, e_1, st_1⟩ := initO X0 hx hZ hown (hw _ (List.mem_of_getElem? (i := 7) rfl)) (hw _ (List.mem_of_getElem? (i := 8) rfl)) (hw _ (List.mem_of_getElem? (i := 9) rfl)) e0 (g := (mkF m 1 #[.val (.ref a)] [(.ref a)])) rfl (by rw [hml]; rfl) rfl (hb hby d1_1) (by decide) (W := 0) (by show 2 * 0 + _ ≤ _; exact Nat.le_of_eq rfl) (by decide)
  refine Win.go st_1 ?_
  clear st_1 X0 e0
  show Win p.tables e below _ (T_1.setTop (mkF m 4 #[.val (.ref a)] []))
  refine s_aloadN (pc' := 5) X_1.here hx (hb hby d1_4) rfl rfl rfl ?_
  refine s_bipush (pc' := 7) (z := (16 : Int32)) X_1.here hx (hb hby d1_5) rfl rfl ?_
  obtain ⟨T_2, h_2, k_2, X_2, e_2, Ex_2, A_2, EA_2, st_2⟩ := newPE X_1 hx hZ (hw _ (List.mem_of_getElem? (i := 0) rfl)) e_1 (g := (mkF m 7 #[.val (.ref a)] [(.int (16 : Int32)), (.ref a)])) rfl (hb hby d1_7) rfl (by decide) (cap := 16) (by decide) (by decide) (by decide) (by decide) (ad := "[B") (by decide)
  obtain ⟨b_2, g_2⟩ : ∃ z, z = h0.size := ⟨_, rfl⟩
  have ne_a_b_2 : a ≠ b_2 := Nat.ne_of_lt (Nat.lt_of_lt_of_le lt_a (Nat.le_of_eq g_2.symm))
  have g_b_2 : n0 ≤ b_2 := Nat.le_trans Zs (Nat.le_of_eq g_2.symm)
  have sz_b_2 : h0.size ≤ b_2 := Nat.le_trans Kp.1 (Nat.le_of_eq g_2.symm)
  rw [← g_2] at A_2 EA_2 st_2
  replace E_a := E_a.ext Ex_2
  replace F_bytes_a := F_bytes_a.ext Ex_2
  replace F_ends_a := F_ends_a.ext Ex_2
  replace F_lines_a := F_lines_a.ext Ex_2
  replace F_ids_a := F_ids_a.ext Ex_2
  replace F_count_a := F_count_a.ext Ex_2
  replace lt_a := Nat.lt_of_lt_of_le lt_a Ex_2.1
  replace Zs := Nat.le_trans Zs Ex_2.1
  replace Kp := Kp.ext Ex_2
  have B_b_2 : BA Z h_2 b_2 (16 : Int32) := ⟨_, _, Arv.new A_2 (by decide)⟩
  have lt_b_2 := B_b_2.lt
  refine Win.go st_2 ?_
  clear st_2 Ex_2 A_2 EA_2 g_2 X_1 e_1
  show Win p.tables e below _ (T_2.setTop (mkF m 9 #[.val (.ref a)] [(.ref b_2), (.ref a)]))
  obtain ⟨T_3, h_3, X_3, e_3, W_3, st_3⟩ := putF X_2 hx hZ hown (host := "") (Or.inl (hw _ (List.mem_of_getElem? (i := 10) rfl))) Via.refl e_2 F_bytes_a E_a (Or.inl (hw _ (List.mem_of_getElem? (i := 11) rfl))) (hw _ (List.mem_of_getElem? (i := 2) rfl)) (ty := (.array .byte)) (by decide) rfl rfl (g := (mkF m 9 #[.val (.ref a)] [(.ref b_2), (.ref a)])) rfl rfl (hb hby d1_9)
  replace E_a := E_a.wr W_3
  replace F_ends_a := F_ends_a.other W_3 (Or.inr (slot_ne (Or.inl (hw _ (List.mem_of_getElem? (i := 14) rfl))) (Or.inl (hw _ (List.mem_of_getElem? (i := 11) rfl))) (by decide) (t := (.array .int)) (t' := (.array .byte)) (by decide) (by decide)))
  replace F_lines_a := F_lines_a.other W_3 (Or.inr (slot_ne (Or.inl (hw _ (List.mem_of_getElem? (i := 16) rfl))) (Or.inl (hw _ (List.mem_of_getElem? (i := 11) rfl))) (by decide) (t := (.array .int)) (t' := (.array .byte)) (by decide) (by decide)))
  replace F_ids_a := F_ids_a.other W_3 (Or.inr (slot_ne (Or.inl (hw _ (List.mem_of_getElem? (i := 18) rfl))) (Or.inl (hw _ (List.mem_of_getElem? (i := 11) rfl))) (by decide) (t := (.array .int)) (t' := (.array .byte)) (by decide) (by decide)))
  replace F_count_a := F_count_a.other W_3 (Or.inr (slot_ne (Or.inl (hw _ (List.mem_of_getElem? (i := 25) rfl))) (Or.inl (hw _ (List.mem_of_getElem? (i := 11) rfl))) (by decide) (t := .int) (t' := (.array .byte)) (by decide) (by decide)))
  replace B_b_2 := B_b_2.other W_3 (Ne.symm ne_a_b_2)
  replace lt_a := Nat.lt_of_lt_of_le lt_a (Keep.of_wr W_3).1
  replace lt_b_2 := Nat.lt_of_lt_of_le lt_b_2 (Keep.of_wr W_3).1
  replace Zs := Nat.le_trans Zs (Keep.of_wr W_3).1
  replace Kp := Kp.wr W_3 (Or.inl (by simp))
  replace F_bytes_a := F_bytes_a.same W_3
  replace Nf := Fr.snoc X_3 Nf g_a
  refine Win.go st_3 ?_
  clear st_3 W_3 X_2 e_2
  show Win p.tables e below _ (T_3.setTop (mkF m 12 #[.val (.ref a)] []))
  refine s_aloadN (pc' := 13) X_3.here hx (hb hby d1_12) rfl rfl rfl ?_
  refine s_bipush (pc' := 15) (z := (16 : Int32)) X_3.here hx (hb hby d1_13) rfl rfl ?_
  obtain ⟨T_4, h_4, k_4, X_4, e_4, Ex_4, A_4, EA_4, st_4⟩ := newPE X_3 hx hZ (hw _ (List.mem_of_getElem? (i := 12) rfl)) e_3 (g := (mkF m 15 #[.val (.ref a)] [(.int (16 : Int32)), (.ref a)])) rfl (hb hby d1_15) rfl (by decide) (cap := 16) (by decide) (by decide) (by decide) (by decide) (ad := "[I") (by decide)
  obtain ⟨b_4, g_4⟩ : ∃ z, z = h_3.size := ⟨_, rfl⟩
  have ne_a_b_4 : a ≠ b_4 := Nat.ne_of_lt (Nat.lt_of_lt_of_le lt_a (Nat.le_of_eq g_4.symm))
  have ne_b_2_b_4 : b_2 ≠ b_4 := Nat.ne_of_lt (Nat.lt_of_lt_of_le lt_b_2 (Nat.le_of_eq g_4.symm))
  have g_b_4 : n0 ≤ b_4 := Nat.le_trans Zs (Nat.le_of_eq g_4.symm)
  have sz_b_4 : h0.size ≤ b_4 := Nat.le_trans Kp.1 (Nat.le_of_eq g_4.symm)
  rw [← g_4] at A_4 EA_4 st_4
  replace E_a := E_a.ext Ex_4
  replace F_bytes_a := F_bytes_a.ext Ex_4
  replace F_ends_a := F_ends_a.ext Ex_4
  replace F_lines_a := F_lines_a.ext Ex_4
  replace F_ids_a := F_ids_a.ext Ex_4
  replace F_count_a := F_count_a.ext Ex_4
  replace B_b_2 := B_b_2.ext Ex_4
  replace lt_a := Nat.lt_of_lt_of_le lt_a Ex_4.1
  replace lt_b_2 := Nat.lt_of_lt_of_le lt_b_2 Ex_4.1
  replace Zs := Nat.le_trans Zs Ex_4.1
  replace Kp := Kp.ext Ex_4
  have A_b_4 : AF Z h_4 b_4 .int 16 (fun _ => 0) := AF.zero (Arv.new A_4 (by decide)) (by decide)
  have lt_b_4 := A_b_4.lt
  have E_b_4 := EA_4
  refine Win.go st_4 ?_
  clear st_4 Ex_4 A_4 EA_4 g_4 X_3 e_3
  show Win p.tables e below _ (T_4.setTop (mkF m 17 #[.val (.ref a)] [(.ref b_4), (.ref a)]))
  obtain ⟨T_5, h_5, X_5, e_5, W_5, st_5⟩ := putF X_4 hx hZ hown (host := "") (Or.inl (hw _ (List.mem_of_getElem? (i := 13) rfl))) Via.refl e_4 F_ends_a E_a (Or.inl (hw _ (List.mem_of_getElem? (i := 14) rfl))) (hw _ (List.mem_of_getElem? (i := 2) rfl)) (ty := (.array .int)) (by decide) rfl rfl (g := (mkF m 17 #[.val (.ref a)] [(.ref b_4), (.ref a)])) rfl rfl (hb hby d1_17)
  replace E_a := E_a.wr W_5
  replace F_bytes_a := F_bytes_a.other W_5 (Or.inr (slot_ne (Or.inl (hw _ (List.mem_of_getElem? (i := 11) rfl))) (Or.inl (hw _ (List.mem_of_getElem? (i := 14) rfl))) (by decide) (t := (.array .byte)) (t' := (.array .int)) (by decide) (by decide)))
  replace F_lines_a := F_lines_a.other W_5 (Or.inr (slot_ne (Or.inl (hw _ (List.mem_of_getElem? (i := 16) rfl))) (Or.inl (hw _ (List.mem_of_getElem? (i := 14) rfl))) (by decide) (t := (.array .int)) (t' := (.array .int)) (by decide) (by decide)))
  replace F_ids_a := F_ids_a.other W_5 (Or.inr (slot_ne (Or.inl (hw _ (List.mem_of_getElem? (i := 18) rfl))) (Or.inl (hw _ (List.mem_of_getElem? (i := 14) rfl))) (by decide) (t := (.array .int)) (t' := (.array .int)) (by decide) (by decide)))
  replace F_count_a := F_count_a.other W_5 (Or.inr (slot_ne (Or.inl (hw _ (List.mem_of_getElem? (i := 25) rfl))) (Or.inl (hw _ (List.mem_of_getElem? (i := 14) rfl))) (by decide) (t := .int) (t' := (.array .int)) (by decide) (by decide)))
  replace B_b_2 := B_b_2.other W_5 (Ne.symm ne_a_b_2)
  replace A_b_4 := A_b_4.other W_5 (Ne.symm ne_a_b_4)
  replace E_b_4 := E_b_4.wr W_5
  replace lt_a := Nat.lt_of_lt_of_le lt_a (Keep.of_wr W_5).1
  replace lt_b_2 := Nat.lt_of_lt_of_le lt_b_2 (Keep.of_wr W_5).1
  replace lt_b_4 := Nat.lt_of_lt_of_le lt_b_4 (Keep.of_wr W_5).1
  replace Zs := Nat.le_trans Zs (Keep.of_wr W_5).1
  replace Kp := Kp.wr W_5 (Or.inl (by simp))
  replace F_ends_a := F_ends_a.same W_5
  replace Nf := Fr.snoc X_5 Nf g_a
  refine Win.go st_5 ?_
  clear st_5 W_5 X_4 e_4
  show Win p.tables e below _ (T_5.setTop (mkF m 20 #[.val (.ref a)] []))
  refine s_aloadN (pc' := 21) X_5.here hx (hb hby d1_20) rfl rfl rfl ?_
  refine s_bipush (pc' := 23) (z := (16 : Int32)) X_5.here hx (hb hby d1_21) rfl rfl ?_
  obtain ⟨T_6, h_6, k_6, X_6, e_6, Ex_6, A_6, EA_6, st_6⟩ := newPE X_5 hx hZ (hw _ (List.mem_of_getElem? (i := 12) rfl)) e_5 (g := (mkF m 23 #[.val (.ref a)] [(.int (16 : Int32)), (.ref a)])) rfl (hb hby d1_23) rfl (by decide) (cap := 16) (by decide) (by decide) (by decide) (by decide) (ad := "[I") (by decide)
  obtain ⟨b_6, g_6⟩ : ∃ z, z = h_5.size := ⟨_, rfl⟩
  have ne_a_b_6 : a ≠ b_6 := Nat.ne_of_lt (Nat.lt_of_lt_of_le lt_a (Nat.le_of_eq g_6.symm))
  have ne_b_2_b_6 : b_2 ≠ b_6 := Nat.ne_of_lt (Nat.lt_of_lt_of_le lt_b_2 (Nat.le_of_eq g_6.symm))
  have ne_b_4_b_6 : b_4 ≠ b_6 := Nat.ne_of_lt (Nat.lt_of_lt_of_le lt_b_4 (Nat.le_of_eq g_6.symm))
  have g_b_6 : n0 ≤ b_6 := Nat.le_trans Zs (Nat.le_of_eq g_6.symm)
  have sz_b_6 : h0.size ≤ b_6 := Nat.le_trans Kp.1 (Nat.le_of_eq g_6.symm)
  rw [← g_6] at A_6 EA_6 st_6
  replace E_a := E_a.ext Ex_6
  replace F_bytes_a := F_bytes_a.ext Ex_6
  replace F_ends_a := F_ends_a.ext Ex_6
  replace F_lines_a := F_lines_a.ext Ex_6
  replace F_ids_a := F_ids_a.ext Ex_6
  replace F_count_a := F_count_a.ext Ex_6
  replace B_b_2 := B_b_2.ext Ex_6
  replace A_b_4 := A_b_4.ext Ex_6
  replace E_b_4 := E_b_4.ext Ex_6
  replace lt_a := Nat.lt_of_lt_of_le lt_a Ex_6.1
  replace lt_b_2 := Nat.lt_of_lt_of_le lt_b_2 Ex_6.1
  replace lt_b_4 := Nat.lt_of_lt_of_le lt_b_4 Ex_6.1
  replace Zs := Nat.le_trans Zs Ex_6.1
  replace Kp := Kp.ext Ex_6
  have A_b_6 : AF Z h_6 b_6 .int 16 (fun _ => 0) := AF.zero (Arv.new A_6 (by decide)) (by decide)
  have lt_b_6 := A_b_6.lt
  have E_b_6 := EA_6
  refine Win.go st_6 ?_
  clear st_6 Ex_6 A_6 EA_6 g_6 X_5 e_5
  show Win p.tables e below _ (T_6.setTop (mkF m 25 #[.val (.ref a)] [(.ref b_6), (.ref a)]))
  obtain ⟨T_7, h_7, X_7, e_7, W_7, st_7⟩ := putF X_6 hx hZ hown (host := "") (Or.inl (hw _ (List.mem_of_getElem? (i := 15) rfl))) Via.refl e_6 F_lines_a E_a (Or.inl (hw _ (List.mem_of_getElem? (i := 16) rfl))) (hw _ (List.mem_of_getElem? (i := 2) rfl)) (ty := (.array .int)) (by decide) rfl rfl (g := (mkF m 25 #[.val (.ref a)] [(.ref b_6), (.ref a)])) rfl rfl (hb hby d1_25)
  replace E_a := E_a.wr W_7
  replace F_bytes_a := F_bytes_a.other W_7 (Or.inr (slot_ne (Or.inl (hw _ (List.mem_of_getElem? (i := 11) rfl))) (Or.inl (hw _ (List.mem_of_getElem? (i := 16) rfl))) (by decide) (t := (.array .byte)) (t' := (.array .int)) (by decide) (by decide)))
  replace F_ends_a := F_ends_a.other W_7 (Or.inr (slot_ne (Or.inl (hw _ (List.mem_of_getElem? (i := 14) rfl))) (Or.inl (hw _ (List.mem_of_getElem? (i := 16) rfl))) (by decide) (t := (.array .int)) (t' := (.array .int)) (by decide) (by decide)))
  replace F_ids_a := F_ids_a.other W_7 (Or.inr (slot_ne (Or.inl (hw _ (List.mem_of_getElem? (i := 18) rfl))) (Or.inl (hw _ (List.mem_of_getElem? (i := 16) rfl))) (by decide) (t := (.array .int)) (t' := (.array .int)) (by decide) (by decide)))
  replace F_count_a := F_count_a.other W_7 (Or.inr (slot_ne (Or.inl (hw _ (List.mem_of_getElem? (i := 25) rfl))) (Or.inl (hw _ (List.mem_of_getElem? (i := 16) rfl))) (by decide) (t := .int) (t' := (.array .int)) (by decide) (by decide)))
  replace B_b_2 := B_b_2.other W_7 (Ne.symm ne_a_b_2)
  replace A_b_4 := A_b_4.other W_7 (Ne.symm ne_a_b_4)
  replace E_b_4 := E_b_4.wr W_7
  replace A_b_6 := A_b_6.other W_7 (Ne.symm ne_a_b_6)
  replace E_b_6 := E_b_6.wr W_7
  replace lt_a := Nat.lt_of_lt_of_le lt_a (Keep.of_wr W_7).1
  replace lt_b_2 := Nat.lt_of_lt_of_le lt_b_2 (Keep.of_wr W_7).1
  replace lt_b_4 := Nat.lt_of_lt_of_le lt_b_4 (Keep.of_wr W_7).1
  replace lt_b_6 := Nat.lt_of_lt_of_le lt_b_6 (Keep.of_wr W_7).1
  replace Zs := Nat.le_trans Zs (Keep.of_wr W_7).1
  replace Kp := Kp.wr W_7 (Or.inl (by simp))
  replace F_lines_a := F_lines_a.same W_7
  replace Nf := Fr.snoc X_7 Nf g_a
  refine Win.go st_7 ?_
  clear st_7 W_7 X_6 e_6
  show Win p.tables e below _ (T_7.setTop (mkF m 28 #[.val (.ref a)] []))
  refine s_aloadN (pc' := 29) X_7.here hx (hb hby d1_28) rfl rfl rfl ?_
  refine s_bipush (pc' := 31) (z := (16 : Int32)) X_7.here hx (hb hby d1_29) rfl rfl ?_
  obtain ⟨T_8, h_8, k_8, X_8, e_8, Ex_8, A_8, EA_8, st_8⟩ := newPE X_7 hx hZ (hw _ (List.mem_of_getElem? (i := 12) rfl)) e_7 (g := (mkF m 31 #[.val (.ref a)] [(.int (16 : Int32)), (.ref a)])) rfl (hb hby d1_31) rfl (by decide) (cap := 16) (by decide) (by decide) (by decide) (by decide) (ad := "[I") (by decide)
  obtain ⟨b_8, g_8⟩ : ∃ z, z = h_7.size := ⟨_, rfl⟩
  have ne_a_b_8 : a ≠ b_8 := Nat.ne_of_lt (Nat.lt_of_lt_of_le lt_a (Nat.le_of_eq g_8.symm))
  have ne_b_2_b_8 : b_2 ≠ b_8 := Nat.ne_of_lt (Nat.lt_of_lt_of_le lt_b_2 (Nat.le_of_eq g_8.symm))
  have ne_b_4_b_8 : b_4 ≠ b_8 := Nat.ne_of_lt (Nat.lt_of_lt_of_le lt_b_4 (Nat.le_of_eq g_8.symm))
  have ne_b_6_b_8 : b_6 ≠ b_8 := Nat.ne_of_lt (Nat.lt_of_lt_of_le lt_b_6 (Nat.le_of_eq g_8.symm))
  have g_b_8 : n0 ≤ b_8 := Nat.le_trans Zs (Nat.le_of_eq g_8.symm)
  have sz_b_8 : h0.size ≤ b_8 := Nat.le_trans Kp.1 (Nat.le_of_eq g_8.symm)
  rw [← g_8] at A_8 EA_8 st_8
  replace E_a := E_a.ext Ex_8
  replace F_bytes_a := F_bytes_a.ext Ex_8
  replace F_ends_a := F_ends_a.ext Ex_8
  replace F_lines_a := F_lines_a.ext Ex_8
  replace F_ids_a := F_ids_a.ext Ex_8
  replace F_count_a := F_count_a.ext Ex_8
  replace B_b_2 := B_b_2.ext Ex_8
  replace A_b_4 := A_b_4.ext Ex_8
  replace E_b_4 := E_b_4.ext Ex_8
  replace A_b_6 := A_b_6.ext Ex_8
  replace E_b_6 := E_b_6.ext Ex_8
  replace lt_a := Nat.lt_of_lt_of_le lt_a Ex_8.1
  replace lt_b_2 := Nat.lt_of_lt_of_le lt_b_2 Ex_8.1
  replace lt_b_4 := Nat.lt_of_lt_of_le lt_b_4 Ex_8.1
  replace lt_b_6 := Nat.lt_of_lt_of_le lt_b_6 Ex_8.1
  replace Zs := Nat.le_trans Zs Ex_8.1
  replace Kp := Kp.ext Ex_8
  have A_b_8 : AF Z h_8 b_8 .int 16 (fun _ => 0) := AF.zero (Arv.new A_8 (by decide)) (by decide)
  have lt_b_8 := A_b_8.lt
  have E_b_8 := EA_8
  refine Win.go st_8 ?_
  clear st_8 Ex_8 A_8 EA_8 g_8 X_7 e_7
  show Win p.tables e below _ (T_8.setTop (mkF m 33 #[.val (.ref a)] [(.ref b_8), (.ref a)]))
  obtain ⟨T_9, h_9, X_9, e_9, W_9, st_9⟩ := putF X_8 hx hZ hown (host := "") (Or.inl (hw _ (List.mem_of_getElem? (i := 17) rfl))) Via.refl e_8 F_ids_a E_a (Or.inl (hw _ (List.mem_of_getElem? (i := 18) rfl))) (hw _ (List.mem_of_getElem? (i := 2) rfl)) (ty := (.array .int)) (by decide) rfl rfl (g := (mkF m 33 #[.val (.ref a)] [(.ref b_8), (.ref a)])) rfl rfl (hb hby d1_33)
  replace E_a := E_a.wr W_9
  replace F_bytes_a := F_bytes_a.other W_9 (Or.inr (slot_ne (Or.inl (hw _ (List.mem_of_getElem? (i := 11) rfl))) (Or.inl (hw _ (List.mem_of_getElem? (i := 18) rfl))) (by decide) (t := (.array .byte)) (t' := (.array .int)) (by decide) (by decide)))
  replace F_ends_a := F_ends_a.other W_9 (Or.inr (slot_ne (Or.inl (hw _ (List.mem_of_getElem? (i := 14) rfl))) (Or.inl (hw _ (List.mem_of_getElem? (i := 18) rfl))) (by decide) (t := (.array .int)) (t' := (.array .int)) (by decide) (by decide)))
  replace F_lines_a := F_lines_a.other W_9 (Or.inr (slot_ne (Or.inl (hw _ (List.mem_of_getElem? (i := 16) rfl))) (Or.inl (hw _ (List.mem_of_getElem? (i := 18) rfl))) (by decide) (t := (.array .int)) (t' := (.array .int)) (by decide) (by decide)))
  replace F_count_a := F_count_a.other W_9 (Or.inr (slot_ne (Or.inl (hw _ (List.mem_of_getElem? (i := 25) rfl))) (Or.inl (hw _ (List.mem_of_getElem? (i := 18) rfl))) (by decide) (t := .int) (t' := (.array .int)) (by decide) (by decide)))
  replace B_b_2 := B_b_2.other W_9 (Ne.symm ne_a_b_2)
  replace A_b_4 := A_b_4.other W_9 (Ne.symm ne_a_b_4)
  replace E_b_4 := E_b_4.wr W_9
  replace A_b_6 := A_b_6.other W_9 (Ne.symm ne_a_b_6)
  replace E_b_6 := E_b_6.wr W_9
  replace A_b_8 := A_b_8.other W_9 (Ne.symm ne_a_b_8)
  replace E_b_8 := E_b_8.wr W_9
  replace lt_a := Nat.lt_of_lt_of_le lt_a (Keep.of_wr W_9).1
  replace lt_b_2 := Nat.lt_of_lt_of_le lt_b_2 (Keep.of_wr W_9).1
  replace lt_b_4 := Nat.lt_of_lt_of_le lt_b_4 (Keep.of_wr W_9).1
  replace lt_b_6 := Nat.lt_of_lt_of_le lt_b_6 (Keep.of_wr W_9).1
  replace lt_b_8 := Nat.lt_of_lt_of_le lt_b_8 (Keep.of_wr W_9).1
  replace Zs := Nat.le_trans Zs (Keep.of_wr W_9).1
  replace Kp := Kp.wr W_9 (Or.inl (by simp))
  replace F_ids_a := F_ids_a.same W_9
  replace Nf := Fr.snoc X_9 Nf g_a
  refine Win.go st_9 ?_
  clear st_9 W_9 X_8 e_8
  show Win p.tables e below _ (T_9.setTop (mkF m 36 #[.val (.ref a)] []))
  refine winV X_9 hx hlk e_9 Bd.returns (hb hby d1_36) (by decide) (by decide) ?_
  exact ⟨Nf, Kp, ⟨b_2, b_4, b_6, g_b_2, sz_b_2, g_b_4, sz_b_4, g_b_6, sz_b_6, ne_b_2_b_4, ne_b_2_b_6, ne_b_4_b_6, F_bytes_a, F_ends_a, F_lines_a, F_count_a, B_b_2, A_b_4, A_b_6⟩, rfl⟩
theorem d4_0 : decode prog_38_method_8_code 0 = .ok (.iload_n 1, 1) := by decide +kernel
theorem d4_1 : decode prog_38_method_8_code 1 = .ok (.ifCond .ne 7, 3) := by decide +kernel
theorem d4_4 : decode prog_38_method_8_code 4 = .ok (.iconst 0, 1) := by decide +kernel
theorem d4_5 : decode prog_38_method_8_code 5 = .ok (.goto 11, 3) := by decide +kernel
theorem d4_16 : decode prog_38_method_8_code 16 = .ok (.ireturn, 1) := by decide +kernel
theorem ef_4_0 (m : MethodId) (a : Addr) : entryFrame m #[(.ref a), (.int (0 : Int32))] 2 = mkF m 0 #[.val (.ref a), .val (.int (0 : Int32))] [] := by first | (simp [entryFrame, mkF, argsToLocals, Value.category]; done) | rfl
def Q4_0 (Z : State) (a : Addr) (h0 : Heap) (n0 : Nat) (v : Option Value) (h : Heap) (L : List Loc) : Prop := Fr n0 L ∧ h = h0 ∧ v = some (.int (0 : Int32))
set_option maxRecDepth 65536 in
set_option maxHeartbeats 40000000 in
theorem rm4_0 (l : Launch) (Z : State) (a0 : Array Value) (hw : ∀ d ∈ tables_1, d.before a0 Z = true) (ws : List Jvm.Cond) (a : Addr) (h0 : Heap) (n0 : Nat) (Zs : n0 ≤ h0.size) :
    MetFree l (⟨"com/example/nearstable/nearstable/files/StringBatch", "start", "(I)I"⟩ : MethodName) (head1 (Jvm.Cond.code (⟨"com/example/nearstable/nearstable/files/StringBatch", "start", "(I)I"⟩ : MethodName) prog_38_method_8_code 2 (some .int) :: ws) ({ frames := 0, cells := 0, slots := 0, locals := 0 } : Room)) (fun as' U => as' = #[(.ref a), (.int (0 : Int32))] ∧ Z.Warmed39 U.vm ∧ U.heap = h0) (fun _ _ _ _ _ => True) (fun _ U o U' => ∃ v L, o = .returned v ∧ Q4_0 Z a h0 n0 v U'.heap L ∧ FrameEnd U o U' L ({ frames := 0, cells := 0, slots := 0, locals := 0 } : Room).cells ({ frames := 0, cells := 0, slots := 0, locals := 0 } : Room).slots) := by
  refine MetFree.of_bodySF (plainFor_of_name pn_1) hisR ?_
  intro p e s m args below meth c s₁ Bd hml0 hP hK
  obtain ⟨rfl, hZ, hh⟩ := hP
  have hx := Bd.exec
  have hby := Bd.bytes
  have hml : c.maxLocals = 2 := hml0
  have hown : s.vm.findClass "com/example/nearstable/nearstable/files/StringBatch" = some m.cls := findClass_of_methodNamed Bd.named
  have hnm := (name_of_methodNamed Bd.named Bd.method).1
  have hlk : meth.locks = false := Bd.notSynchronized
  have X0 : Stand p l e ({ frames := 0, cells := 0, slots := 0, locals := 0 } : Room) s m #[(.ref a), (.int (0 : Int32))] below meth c s₁ [] 0 0 := Stand.of_body Bd
  have e0 : s₁.heap = h0 := by rw [← hh, Bd.state]; rfl
  have Nf := Fr.nil n0
  refine (?_ : Win p.tables e below (PostQ s (Q4_0 Z a h0 n0) ({ frames := 0, cells := 0, slots := 0, locals := 0 } : Room).cells ({ frames := 0, cells := 0, slots := 0, locals := 0 } : Room).slots) (s₁.setTop (entryFrame m #[(.ref a), (.int (0 : Int32))] 2)))
  rw [ef_4_0]
  show Win p.tables e below _ (s₁.setTop (mkF m 0 #[.val (.ref a), .val (.int (0 : Int32))] []))
  refine s_iloadN (pc' := 1) X0.here hx (hb hby d4_0) rfl rfl ?_
  refine s_ifNo (pc' := 4) X0.here hx (hb hby d4_1) rfl ((if0 _ _).trans (teqI (x := (0 : Int32)) (y := (0 : Int32)) (by decide)).2) ?_
  refine s_iconst (pc' := 5) (z := (0 : Int32)) X0.here hx (hb hby d4_4) rfl rfl ?_
  refine s_goto (pc' := 16) X0.here hx (hb hby d4_5) (by decide) (by decide) ?_
  refine winI X0 hx hlk e0 Bd.returns (hb hby d4_16) (by decide) (by decide) ?_
  exact ⟨Nf, rfl, rfl⟩
theorem d4_8 : decode prog_38_method_8_code 8 = .ok (.aload_n 0, 1) := by decide +kernel
theorem d4_9 : decode prog_38_method_8_code 9 = .ok (.getfield 13, 3) := by decide +kernel
theorem d4_12 : decode prog_38_method_8_code 12 = .ok (.iload_n 1, 1) := by decide +kernel
theorem d4_13 : decode prog_38_method_8_code 13 = .ok (.iconst 1, 1) := by decide +kernel
theorem d4_14 : decode prog_38_method_8_code 14 = .ok (.isub, 1) := by decide +kernel
theorem d4_15 : decode prog_38_method_8_code 15 = .ok (.iaload, 1) := by decide +kernel
theorem ef_4_1 (m : MethodId) (a : Addr) : entryFrame m #[(.ref a), (.int (1 : Int32))] 2 = mkF m 0 #[.val (.ref a), .val (.int (1 : Int32))] [] := by first | (simp [entryFrame, mkF, argsToLocals, Value.category]; done) | rfl
def Q4_1 (Z : State) (a : Addr) (en : Addr) (ef : Int → Int32) (h0 : Heap) (n0 : Nat) (v : Option Value) (h : Heap) (L : List Loc) : Prop := Fr n0 L ∧ h = h0 ∧ v = some (.int (ef (0 : Int)))
set_option maxRecDepth 65536 in
set_option maxHeartbeats 40000000 in
theorem rm4_1 (l : Launch) (Z : State) (a0 : Array Value) (hw : ∀ d ∈ tables_1, d.before a0 Z = true) (ws : List Jvm.Cond) (a : Addr) (en : Addr) (ef : Int → Int32) (h0 : Heap) (n0 : Nat) (Zs : n0 ≤ h0.size) (F_ends_a : Fld Z h0 a "com/example/nearstable/nearstable/files/StringBatch" "ends" "[I" (.ref en)) (A_en : AF Z h0 en .int 16 ef) :
    MetFree l (⟨"com/example/nearstable/nearstable/files/StringBatch", "start", "(I)I"⟩ : MethodName) (head1 (Jvm.Cond.code (⟨"com/example/nearstable/nearstable/files/StringBatch", "start", "(I)I"⟩ : MethodName) prog_38_method_8_code 2 (some .int) :: ws) ({ frames := 0, cells := 0, slots := 0, locals := 0 } : Room)) (fun as' U => as' = #[(.ref a), (.int (1 : Int32))] ∧ Z.Warmed39 U.vm ∧ U.heap = h0) (fun _ _ _ _ _ => True) (fun _ U o U' => ∃ v L, o = .returned v ∧ Q4_1 Z a en ef h0 n0 v U'.heap L ∧ FrameEnd U o U' L ({ frames := 0, cells := 0, slots := 0, locals := 0 } : Room).cells ({ frames := 0, cells := 0, slots := 0, locals := 0 } : Room).slots) := by
  refine MetFree.of_bodySF (plainFor_of_name pn_1) hisR ?_
  intro p e s m args below meth c s₁ Bd hml0 hP hK
  obtain ⟨rfl, hZ, hh⟩ := hP
  have hx := Bd.exec
  have hby := Bd.bytes
  have hml : c.maxLocals = 2 := hml0
  have hown : s.vm.findClass "com/example/nearstable/nearstable/files/StringBatch" = some m.cls := findClass_of_methodNamed Bd.named
  have hnm := (name_of_methodNamed Bd.named Bd.method).1
  have hlk : meth.locks = false := Bd.notSynchronized
  have X0 : Stand p l e ({ frames := 0, cells := 0, slots := 0, locals := 0 } : Room) s m #[(.ref a), (.int (1 : Int32))] below meth c s₁ [] 0 0 := Stand.of_body Bd
  have e0 : s₁.heap = h0 := by rw [← hh, Bd.state]; rfl
  have Nf := Fr.nil n0
  refine (?_ : Win p.tables e below (PostQ s (Q4_1 Z a en ef h0 n0) ({ frames := 0, cells := 0, slots := 0, locals := 0 } : Room).cells ({ frames := 0, cells := 0, slots := 0, locals := 0 } : Room).slots) (s₁.setTop (entryFrame m #[(.ref a), (.int (1 : Int32))] 2)))
  rw [ef_4_1]
  have lt_a : a < h0.size := F_ends_a.lt
  have lt_en : en < h0.size := A_en.lt
  show Win p.tables e below _ (s₁.setTop (mkF m 0 #[.val (.ref a), .val (.int (1 : Int32))] []))
  refine s_iloadN (pc' := 1) X0.here hx (hb hby d4_0) rfl rfl ?_
  refine s_ifYes (pc' := 8) X0.here hx (hb hby d4_1) ((if0 _ _).trans (feqI (x := (1 : Int32)) (y := (0 : Int32)) (by decide)).2) (by decide) (by decide) ?_
  refine s_aloadN (pc' := 9) X0.here hx (hb hby d4_8) rfl rfl rfl ?_
  obtain ⟨T_10, X_10, e_10, st_10⟩ := getF X0 hx hZ hown (host := "") (Or.inl (hw _ (List.mem_of_getElem? (i := 13) rfl))) Via.refl e0 F_ends_a (g := (mkF m 9 #[.val (.ref a), .val (.int (1 : Int32))] [(.ref a)])) rfl rfl (hb hby d4_9)
  refine Win.go st_10 ?_
  clear st_10 X0 e0
  show Win p.tables e below _ (T_10.setTop (mkF m 12 #[.val (.ref a), .val (.int (1 : Int32))] [(.ref en)]))
  refine s_iloadN (pc' := 13) X_10.here hx (hb hby d4_12) rfl rfl ?_
  refine s_iconst (pc' := 14) (z := (1 : Int32)) X_10.here hx (hb hby d4_13) rfl rfl ?_
  refine Win.go (fun _ k => XS.isub X_10.here hx rfl (hb hby d4_14) rfl k) ?_
  show Win p.tables e below _ (T_10.setTop (mkF m 15 #[.val (.ref a), .val (.int (1 : Int32))] [(.int (0 : Int32)), (.ref en)]))
  obtain ⟨cl_11, Ar_11, S_11, G_11⟩ := id A_en
  have hb_11 : 0 ≤ ((0 : Int32)).toInt ∧ ((0 : Int32)).toInt < 16 := by decide
  refine Win.go (fun _ k => X_10.iaload hx (j := (0 : Int32)) (v := (.int (ef (0 : Int)))) (by rw [e_10]; exact Ar_11.1) (State.isArrayOf_alike hZ.alike Ar_11.2.1) Ar_11.2.2 (AF.inb S_11 hb_11) (G_11 _ hb_11.1 hb_11.2) (g := (mkF m 15 #[.val (.ref a), .val (.int (1 : Int32))] [(.int (0 : Int32)), (.ref en)])) rfl rfl (hb hby d4_15) _ k) ?_
  show Win p.tables e below _ (T_10.setTop (mkF m 16 #[.val (.ref a), .val (.int (1 : Int32))] [(.int (ef (0 : Int)))]))
  clear Ar_11 S_11 G_11 hb_11
  refine winI X_10 hx hlk e_10 Bd.returns (hb hby d4_16) (by decide) (by decide) ?_
  exact ⟨Nf, rfl, rfl⟩
theorem ef_4_2 (m : MethodId) (a : Addr) : entryFrame m #[(.ref a), (.int (2 : Int32))] 2 = mkF m 0 #[.val (.ref a), .val (.int (2 : Int32))] [] := by first | (simp [entryFrame, mkF, argsToLocals, Value.category]; done) | rfl
def Q4_2 (Z : State) (a : Addr) (en : Addr) (ef : Int → Int32) (h0 : Heap) (n0 : Nat) (v : Option Value) (h : Heap) (L : List Loc) : Prop := Fr n0 L ∧ h = h0 ∧ v = some (.int (ef (1 : Int)))
set_option maxRecDepth 65536 in
set_option maxHeartbeats 40000000 in
theorem rm4_2 (l : Launch) (Z : State) (a0 : Array Value) (hw : ∀ d ∈ tables_1, d.before a0 Z = true) (ws : List Jvm.Cond) (a : Addr) (en : Addr) (ef : Int → Int32) (h0 : Heap) (n0 : Nat) (Zs : n0 ≤ h0.size) (F_ends_a : Fld Z h0 a "com/example/nearstable/nearstable/files/StringBatch" "ends" "[I" (.ref en)) (A_en : AF Z h0 en .int 16 ef) :
    MetFree l (⟨"com/example/nearstable/nearstable/files/StringBatch", "start", "(I)I"⟩ : MethodName) (head1 (Jvm.Cond.code (⟨"com/example/nearstable/nearstable/files/StringBatch", "start", "(I)I"⟩ : MethodName) prog_38_method_8_code 2 (some .int) :: ws) ({ frames := 0, cells := 0, slots := 0, locals := 0 } : Room)) (fun as' U => as' = #[(.ref a), (.int (2 : Int32))] ∧ Z.Warmed39 U.vm ∧ U.heap = h0) (fun _ _ _ _ _ => True) (fun _ U o U' => ∃ v L, o = .returned v ∧ Q4_2 Z a en ef h0 n0 v U'.heap L ∧ FrameEnd U o U' L ({ frames := 0, cells := 0, slots := 0, locals := 0 } : Room).cells ({ frames := 0, cells := 0, slots := 0, locals := 0 } : Room).slots) := by
  refine MetFree.of_bodySF (plainFor_of_name pn_1) hisR ?_
  intro p e s m args below meth c s₁ Bd hml0 hP hK
  obtain ⟨rfl, hZ, hh⟩ := hP
  have hx := Bd.exec
  have hby := Bd.bytes
  have hml : c.maxLocals = 2 := hml0
  have hown : s.vm.findClass "com/example/nearstable/nearstable/files/StringBatch" = some m.cls := findClass_of_methodNamed Bd.named
  have hnm := (name_of_methodNamed Bd.named Bd.method).1
  have hlk : meth.locks = false := Bd.notSynchronized
  have X0 : Stand p l e ({ frames := 0, cells := 0, slots := 0, locals := 0 } : Room) s m #[(.ref a), (.int (2 : Int32))] below meth c s₁ [] 0 0 := Stand.of_body Bd
  have e0 : s₁.heap = h0 := by rw [← hh, Bd.state]; rfl
  have Nf := Fr.nil n0
  refine (?_ : Win p.tables e below (PostQ s (Q4_2 Z a en ef h0 n0) ({ frames := 0, cells := 0, slots := 0, locals := 0 } : Room).cells ({ frames := 0, cells := 0, slots := 0, locals := 0 } : Room).slots) (s₁.setTop (entryFrame m #[(.ref a), (.int (2 : Int32))] 2)))
  rw [ef_4_2]
  have lt_a : a < h0.size := F_ends_a.lt
  have lt_en : en < h0.size := A_en.lt
  show Win p.tables e below _ (s₁.setTop (mkF m 0 #[.val (.ref a), .val (.int (2 : Int32))] []))
  refine s_iloadN (pc' := 1) X0.here hx (hb hby d4_0) rfl rfl ?_
  refine s_ifYes (pc' := 8) X0.here hx (hb hby d4_1) ((if0 _ _).trans (feqI (x := (2 : Int32)) (y := (0 : Int32)) (by decide)).2) (by decide) (by decide) ?_
  refine s_aloadN (pc' := 9) X0.here hx (hb hby d4_8) rfl rfl rfl ?_
  obtain ⟨T_12, X_12, e_12, st_12⟩ := getF X0 hx hZ hown (host := "") (Or.inl (hw _ (List.mem_of_getElem? (i := 13) rfl))) Via.refl e0 F_ends_a (g := (mkF m 9 #[.val (.ref a), .val (.int (2 : Int32))] [(.ref a)])) rfl rfl (hb hby d4_9)
  refine Win.go st_12 ?_
  clear st_12 X0 e0
  show Win p.tables e below _ (T_12.setTop (mkF m 12 #[.val (.ref a), .val (.int (2 : Int32))] [(.ref en)]))
  refine s_iloadN (pc' := 13) X_12.here hx (hb hby d4_12) rfl rfl ?_
  refine s_iconst (pc' := 14) (z := (1 : Int32)) X_12.here hx (hb hby d4_13) rfl rfl ?_
  refine Win.go (fun _ k => XS.isub X_12.here hx rfl (hb hby d4_14) rfl k) ?_
  show Win p.tables e below _ (T_12.setTop (mkF m 15 #[.val (.ref a), .val (.int (2 : Int32))] [(.int (1 : Int32)), (.ref en)]))
  obtain ⟨cl_13, Ar_13, S_13, G_13⟩ := id A_en
  have hb_13 : 0 ≤ ((1 : Int32)).toInt ∧ ((1 : Int32)).toInt < 16 := by decide
  refine Win.go (fun _ k => X_12.iaload hx (j := (1 : Int32)) (v := (.int (ef (1 : Int)))) (by rw [e_12]; exact Ar_13.1) (State.isArrayOf_alike hZ.alike Ar_13.2.1) Ar_13.2.2 (AF.inb S_13 hb_13) (G_13 _ hb_13.1 hb_13.2) (g := (mkF m 15 #[.val (.ref a), .val (.int (2 : Int32))] [(.int (1 : Int32)), (.ref en)])) rfl rfl (hb hby d4_15) _ k) ?_
  show Win p.tables e below _ (T_12.setTop (mkF m 16 #[.val (.ref a), .val (.int (2 : Int32))] [(.int (ef (1 : Int)))]))
  clear Ar_13 S_13 G_13 hb_13
  refine winI X_12 hx hlk e_12 Bd.returns (hb hby d4_16) (by decide) (by decide) ?_
  exact ⟨Nf, rfl, rfl⟩
theorem ef_4_3 (m : MethodId) (a : Addr) : entryFrame m #[(.ref a), (.int (3 : Int32))] 2 = mkF m 0 #[.val (.ref a), .val (.int (3 : Int32))] [] := by first | (simp [entryFrame, mkF, argsToLocals, Value.category]; done) | rfl
def Q4_3 (Z : State) (a : Addr) (en : Addr) (ef : Int → Int32) (h0 : Heap) (n0 : Nat) (v : Option Value) (h : Heap) (L : List Loc) : Prop := Fr n0 L ∧ h = h0 ∧ v = some (.int (ef (2 : Int)))
set_option maxRecDepth 65536 in
set_option maxHeartbeats 40000000 in
theorem rm4_3 (l : Launch) (Z : State) (a0 : Array Value) (hw : ∀ d ∈ tables_1, d.before a0 Z = true) (ws : List Jvm.Cond) (a : Addr) (en : Addr) (ef : Int → Int32) (h0 : Heap) (n0 : Nat) (Zs : n0 ≤ h0.size) (F_ends_a : Fld Z h0 a "com/example/nearstable/nearstable/files/StringBatch" "ends" "[I" (.ref en)) (A_en : AF Z h0 en .int 16 ef) :
    MetFree l (⟨"com/example/nearstable/nearstable/files/StringBatch", "start", "(I)I"⟩ : MethodName) (head1 (Jvm.Cond.code (⟨"com/example/nearstable/nearstable/files/StringBatch", "start", "(I)I"⟩ : MethodName) prog_38_method_8_code 2 (some .int) :: ws) ({ frames := 0, cells := 0, slots := 0, locals := 0 } : Room)) (fun as' U => as' = #[(.ref a), (.int (3 : Int32))] ∧ Z.Warmed39 U.vm ∧ U.heap = h0) (fun _ _ _ _ _ => True) (fun _ U o U' => ∃ v L, o = .returned v ∧ Q4_3 Z a en ef h0 n0 v U'.heap L ∧ FrameEnd U o U' L ({ frames := 0, cells := 0, slots := 0, locals := 0 } : Room).cells ({ frames := 0, cells := 0, slots := 0, locals := 0 } : Room).slots) := by
  refine MetFree.of_bodySF (plainFor_of_name pn_1) hisR ?_
  intro p e s m args below meth c s₁ Bd hml0 hP hK
  obtain ⟨rfl, hZ, hh⟩ := hP
  have hx := Bd.exec
  have hby := Bd.bytes
  have hml : c.maxLocals = 2 := hml0
  have hown : s.vm.findClass "com/example/nearstable/nearstable/files/StringBatch" = some m.cls := findClass_of_methodNamed Bd.named
  have hnm := (name_of_methodNamed Bd.named Bd.method).1
  have hlk : meth.locks = false := Bd.notSynchronized
  have X0 : Stand p l e ({ frames := 0, cells := 0, slots := 0, locals := 0 } : Room) s m #[(.ref a), (.int (3 : Int32))] below meth c s₁ [] 0 0 := Stand.of_body Bd
  have e0 : s₁.heap = h0 := by rw [← hh, Bd.state]; rfl
  have Nf := Fr.nil n0
  refine (?_ : Win p.tables e below (PostQ s (Q4_3 Z a en ef h0 n0) ({ frames := 0, cells := 0, slots := 0, locals := 0 } : Room).cells ({ frames := 0, cells := 0, slots := 0, locals := 0 } : Room).slots) (s₁.setTop (entryFrame m #[(.ref a), (.int (3 : Int32))] 2)))
  rw [ef_4_3]
  have lt_a : a < h0.size := F_ends_a.lt
  have lt_en : en < h0.size := A_en.lt
  show Win p.tables e below _ (s₁.setTop (mkF m 0 #[.val (.ref a), .val (.int (3 : Int32))] []))
  refine s_iloadN (pc' := 1) X0.here hx (hb hby d4_0) rfl rfl ?_
  refine s_ifYes (pc' := 8) X0.here hx (hb hby d4_1) ((if0 _ _).trans (feqI (x := (3 : Int32)) (y := (0 : Int32)) (by decide)).2) (by decide) (by decide) ?_
  refine s_aloadN (pc' := 9) X0.here hx (hb hby d4_8) rfl rfl rfl ?_
  obtain ⟨T_14, X_14, e_14, st_14⟩ := getF X0 hx hZ hown (host := "") (Or.inl (hw _ (List.mem_of_getElem? (i := 13) rfl))) Via.refl e0 F_ends_a (g := (mkF m 9 #[.val (.ref a), .val (.int (3 : Int32))] [(.ref a)])) rfl rfl (hb hby d4_9)
  refine Win.go st_14 ?_
  clear st_14 X0 e0
  show Win p.tables e below _ (T_14.setTop (mkF m 12 #[.val (.ref a), .val (.int (3 : Int32))] [(.ref en)]))
  refine s_iloadN (pc' := 13) X_14.here hx (hb hby d4_12) rfl rfl ?_
  refine s_iconst (pc' := 14) (z := (1 : Int32)) X_14.here hx (hb hby d4_13) rfl rfl ?_
  refine Win.go (fun _ k => XS.isub X_14.here hx rfl (hb hby d4_14) rfl k) ?_
  show Win p.tables e below _ (T_14.setTop (mkF m 15 #[.val (.ref a), .val (.int (3 : Int32))] [(.int (2 : Int32)), (.ref en)]))
  obtain ⟨cl_15, Ar_15, S_15, G_15⟩ := id A_en
  have hb_15 : 0 ≤ ((2 : Int32)).toInt ∧ ((2 : Int32)).toInt < 16 := by decide
  refine Win.go (fun _ k => X_14.iaload hx (j := (2 : Int32)) (v := (.int (ef (2 : Int)))) (by rw [e_14]; exact Ar_15.1) (State.isArrayOf_alike hZ.alike Ar_15.2.1) Ar_15.2.2 (AF.inb S_15 hb_15) (G_15 _ hb_15.1 hb_15.2) (g := (mkF m 15 #[.val (.ref a), .val (.int (3 : Int32))] [(.int (2 : Int32)), (.ref en)])) rfl rfl (hb hby d4_15) _ k) ?_
  show Win p.tables e below _ (T_14.setTop (mkF m 16 #[.val (.ref a), .val (.int (3 : Int32))] [(.int (ef (2 : Int)))]))
  clear Ar_15 S_15 G_15 hb_15
  refine winI X_14 hx hlk e_14 Bd.returns (hb hby d4_16) (by decide) (by decide) ?_
  exact ⟨Nf, rfl, rfl⟩
theorem d6_0 : decode jdk_29_method_66_code 0 = .ok (.lload_n 0, 1) := by decide +kernel
theorem d6_1 : decode jdk_29_method_66_code 1 = .ok (.lload_n 2, 1) := by decide +kernel
theorem d6_2 : decode jdk_29_method_66_code 2 = .ok (.lcmp, 1) := by decide +kernel
theorem d6_3 : decode jdk_29_method_66_code 3 = .ok (.ifCond .lt 7, 3) := by decide +kernel
theorem d6_6 : decode jdk_29_method_66_code 6 = .ok (.lload_n 0, 1) := by decide +kernel
theorem d6_7 : decode jdk_29_method_66_code 7 = .ok (.goto 4, 3) := by decide +kernel
theorem d6_10 : decode jdk_29_method_66_code 10 = .ok (.lload_n 2, 1) := by decide +kernel
theorem d6_11 : decode jdk_29_method_66_code 11 = .ok (.lreturn, 1) := by decide +kernel
theorem ef_6 (m : MethodId) (a : Int64) (b : Int64) : entryFrame m #[(.long a), (.long b)] 4 = mkF m 0 #[.val (.long a), .second, .val (.long b), .second] [] := by first | (simp [entryFrame, mkF, argsToLocals, Value.category]; done) | rfl
def Q6 (Z : State) (a : Int64) (b : Int64) (h0 : Heap) (n0 : Nat) (v : Option Value) (h : Heap) (L : List Loc) : Prop := Fr n0 L ∧ h = h0 ∧ (∃ z : Int64, v = some (.long z) ∧ (a.toInt ≤ z.toInt ∧ b.toInt ≤ z.toInt ∧ (z.toInt = a.toInt ∨ z.toInt = b.toInt)))
set_option maxRecDepth 65536 in
set_option maxHeartbeats 40000000 in
theorem rm6 (l : Launch) (Z : State) (a0 : Array Value) (hw : ∀ d ∈ tables_1, d.before a0 Z = true) (ws : List Jvm.Cond) (a : Int64) (b : Int64) (h0 : Heap) (n0 : Nat) (Zs : n0 ≤ h0.size) :
    MetFree l (⟨"java/lang/Math", "max", "(JJ)J"⟩ : MethodName) (head1 (Jvm.Cond.code (⟨"java/lang/Math", "max", "(JJ)J"⟩ : MethodName) jdk_29_method_66_code 4 (some .long) :: ws) ({ frames := 0, cells := 0, slots := 0, locals := 0 } : Room)) (fun as' U => as' = #[(.long a), (.long b)] ∧ Z.Warmed39 U.vm ∧ U.heap = h0) (fun _ _ _ _ _ => True) (fun _ U o U' => ∃ v L, o = .returned v ∧ Q6 Z a b h0 n0 v U'.heap L ∧ FrameEnd U o U' L ({ frames := 0, cells := 0, slots := 0, locals := 0 } : Room).cells ({ frames := 0, cells := 0, slots := 0, locals := 0 } : Room).slots) := by
  refine MetFree.of_bodySF (Jvm.Free.JP.mathPlain rfl (by decide +kernel)) hisR ?_
  intro p e s m args below meth c s₁ Bd hml0 hP hK
  obtain ⟨rfl, hZ, hh⟩ := hP
  have hx := Bd.exec
  have hby := Bd.bytes
  have hml : c.maxLocals = 4 := hml0
  have hown : s.vm.findClass "java/lang/Math" = some m.cls := findClass_of_methodNamed Bd.named
  have hnm := (name_of_methodNamed Bd.named Bd.method).1
  have hlk : meth.locks = false := Bd.notSynchronized
  have X0 : Stand p l e ({ frames := 0, cells := 0, slots := 0, locals := 0 } : Room) s m #[(.long a), (.long b)] below meth c s₁ [] 0 0 := Stand.of_body Bd
  have e0 : s₁.heap = h0 := by rw [← hh, Bd.state]; rfl
  have Nf := Fr.nil n0
  refine (?_ : Win p.tables e below (PostQ s (Q6 Z a b h0 n0) ({ frames := 0, cells := 0, slots := 0, locals := 0 } : Room).cells ({ frames := 0, cells := 0, slots := 0, locals := 0 } : Room).slots) (s₁.setTop (entryFrame m #[(.long a), (.long b)] 4)))
  rw [ef_6]
  show Win p.tables e below _ (s₁.setTop (mkF m 0 #[.val (.long a), .second, .val (.long b), .second] []))
  refine s_lloadN (pc' := 1) X0.here hx (hb hby d6_0) rfl rfl ?_
  refine s_lloadN (pc' := 2) X0.here hx (hb hby d6_1) rfl rfl ?_
  refine s_lcmp (pc' := 3) X0.here hx (hb hby d6_2) rfl ?_
  by_cases hc3 : (a).toInt < (b).toInt
  · skip
    refine s_ifYes (pc' := 10) X0.here hx (hb hby d6_3) (tltL (x := a) (y := b) hc3).1 (by decide) (by decide) ?_
    refine s_lloadN (pc' := 11) X0.here hx (hb hby d6_10) rfl rfl ?_
    refine winL X0 hx hlk e0 Bd.returns (hb hby d6_11) (by decide) (by decide) ?_
    exact ⟨Nf, rfl, _, rfl, by omega⟩
  · skip
    refine s_ifNo (pc' := 6) X0.here hx (hb hby d6_3) rfl (fltL (x := a) (y := b) hc3).1 ?_
    refine s_lloadN (pc' := 7) X0.here hx (hb hby d6_6) rfl rfl ?_
    refine s_goto (pc' := 11) X0.here hx (hb hby d6_7) (by decide) (by decide) ?_
    refine winL X0 hx hlk e0 Bd.returns (hb hby d6_11) (by decide) (by decide) ?_
    exact ⟨Nf, rfl, _, rfl, by omega⟩
theorem d7_0 : decode jdk_29_method_70_code 0 = .ok (.lload_n 0, 1) := by decide +kernel
theorem d7_1 : decode jdk_29_method_70_code 1 = .ok (.lload_n 2, 1) := by decide +kernel
theorem d7_2 : decode jdk_29_method_70_code 2 = .ok (.lcmp, 1) := by decide +kernel
theorem d7_3 : decode jdk_29_method_70_code 3 = .ok (.ifCond .gt 7, 3) := by decide +kernel
theorem d7_6 : decode jdk_29_method_70_code 6 = .ok (.lload_n 0, 1) := by decide +kernel
theorem d7_7 : decode jdk_29_method_70_code 7 = .ok (.goto 4, 3) := by decide +kernel
theorem d7_10 : decode jdk_29_method_70_code 10 = .ok (.lload_n 2, 1) := by decide +kernel
theorem d7_11 : decode jdk_29_method_70_code 11 = .ok (.lreturn, 1) := by decide +kernel
theorem ef_7 (m : MethodId) (a : Int64) (b : Int64) : entryFrame m #[(.long a), (.long b)] 4 = mkF m 0 #[.val (.long a), .second, .val (.long b), .second] [] := by first | (simp [entryFrame, mkF, argsToLocals, Value.category]; done) | rfl
def Q7 (Z : State) (a : Int64) (b : Int64) (h0 : Heap) (n0 : Nat) (v : Option Value) (h : Heap) (L : List Loc) : Prop := Fr n0 L ∧ h = h0 ∧ (∃ z : Int64, v = some (.long z) ∧ (z.toInt ≤ a.toInt ∧ z.toInt ≤ b.toInt ∧ (z.toInt = a.toInt ∨ z.toInt = b.toInt)))
set_option maxRecDepth 65536 in
set_option maxHeartbeats 40000000 in
theorem rm7 (l : Launch) (Z : State) (a0 : Array Value) (hw : ∀ d ∈ tables_1, d.before a0 Z = true) (ws : List Jvm.Cond) (a : Int64) (b : Int64) (h0 : Heap) (n0 : Nat) (Zs : n0 ≤ h0.size) :
    MetFree l (⟨"java/lang/Math", "min", "(JJ)J"⟩ : MethodName) (head1 (Jvm.Cond.code (⟨"java/lang/Math", "min", "(JJ)J"⟩ : MethodName) jdk_29_method_70_code 4 (some .long) :: ws) ({ frames := 0, cells := 0, slots := 0, locals := 0 } : Room)) (fun as' U => as' = #[(.long a), (.long b)] ∧ Z.Warmed39 U.vm ∧ U.heap = h0) (fun _ _ _ _ _ => True) (fun _ U o U' => ∃ v L, o = .returned v ∧ Q7 Z a b h0 n0 v U'.heap L ∧ FrameEnd U o U' L ({ frames := 0, cells := 0, slots := 0, locals := 0 } : Room).cells ({ frames := 0, cells := 0, slots := 0, locals := 0 } : Room).slots) := by
  refine MetFree.of_bodySF (Jvm.Free.JP.mathPlain rfl (by decide +kernel)) hisR ?_
  intro p e s m args below meth c s₁ Bd hml0 hP hK
  obtain ⟨rfl, hZ, hh⟩ := hP
  have hx := Bd.exec
  have hby := Bd.bytes
  have hml : c.maxLocals = 4 := hml0
  have hown : s.vm.findClass "java/lang/Math" = some m.cls := findClass_of_methodNamed Bd.named
  have hnm := (name_of_methodNamed Bd.named Bd.method).1
  have hlk : meth.locks = false := Bd.notSynchronized
  have X0 : Stand p l e ({ frames := 0, cells := 0, slots := 0, locals := 0 } : Room) s m #[(.long a), (.long b)] below meth c s₁ [] 0 0 := Stand.of_body Bd
  have e0 : s₁.heap = h0 := by rw [← hh, Bd.state]; rfl
  have Nf := Fr.nil n0
  refine (?_ : Win p.tables e below (PostQ s (Q7 Z a b h0 n0) ({ frames := 0, cells := 0, slots := 0, locals := 0 } : Room).cells ({ frames := 0, cells := 0, slots := 0, locals := 0 } : Room).slots) (s₁.setTop (entryFrame m #[(.long a), (.long b)] 4)))
  rw [ef_7]
  show Win p.tables e below _ (s₁.setTop (mkF m 0 #[.val (.long a), .second, .val (.long b), .second] []))
  refine s_lloadN (pc' := 1) X0.here hx (hb hby d7_0) rfl rfl ?_
  refine s_lloadN (pc' := 2) X0.here hx (hb hby d7_1) rfl rfl ?_
  refine s_lcmp (pc' := 3) X0.here hx (hb hby d7_2) rfl ?_
  by_cases hc3 : (b).toInt < (a).toInt
  · skip
    refine s_ifYes (pc' := 10) X0.here hx (hb hby d7_3) (tltL (x := b) (y := a) hc3).2.2.1 (by decide) (by decide) ?_
    refine s_lloadN (pc' := 11) X0.here hx (hb hby d7_10) rfl rfl ?_
    refine winL X0 hx hlk e0 Bd.returns (hb hby d7_11) (by decide) (by decide) ?_
    exact ⟨Nf, rfl, _, rfl, by omega⟩
  · skip
    refine s_ifNo (pc' := 6) X0.here hx (hb hby d7_3) rfl (fltL (x := b) (y := a) hc3).2.2.1 ?_
    refine s_lloadN (pc' := 7) X0.here hx (hb hby d7_6) rfl rfl ?_
    refine s_goto (pc' := 11) X0.here hx (hb hby d7_7) (by decide) (by decide) ?_
    refine winL X0 hx hlk e0 Bd.returns (hb hby d7_11) (by decide) (by decide) ?_
    exact ⟨Nf, rfl, _, rfl, by omega⟩
theorem d9_0 : decode jdk_29_method_69_code 0 = .ok (.iload_n 0, 1) := by decide +kernel
theorem d9_1 : decode jdk_29_method_69_code 1 = .ok (.iload_n 1, 1) := by decide +kernel
theorem d9_2 : decode jdk_29_method_69_code 2 = .ok (.if_icmp .gt 7, 3) := by decide +kernel
theorem d9_5 : decode jdk_29_method_69_code 5 = .ok (.iload_n 0, 1) := by decide +kernel
theorem d9_6 : decode jdk_29_method_69_code 6 = .ok (.goto 4, 3) := by decide +kernel
theorem d9_9 : decode jdk_29_method_69_code 9 = .ok (.iload_n 1, 1) := by decide +kernel
theorem d9_10 : decode jdk_29_method_69_code 10 = .ok (.ireturn, 1) := by decide +kernel
theorem ef_9 (m : MethodId) (a : Int32) (b : Int32) : entryFrame m #[(.int a), (.int b)] 2 = mkF m 0 #[.val (.int a), .val (.int b)] [] := by first | (simp [entryFrame, mkF, argsToLocals, Value.category]; done) | rfl
def Q9 (Z : State) (a : Int32) (b : Int32) (h0 : Heap) (n0 : Nat) (v : Option Value) (h : Heap) (L : List Loc) : Prop := Fr n0 L ∧ h = h0 ∧ (∃ z : Int32, v = some (.int z) ∧ (z.toInt ≤ a.toInt ∧ z.toInt ≤ b.toInt ∧ (z.toInt = a.toInt ∨ z.toInt = b.toInt)))
set_option maxRecDepth 65536 in
set_option maxHeartbeats 40000000 in
theorem rm9 (l : Launch) (Z : State) (a0 : Array Value) (hw : ∀ d ∈ tables_1, d.before a0 Z = true) (ws : List Jvm.Cond) (a : Int32) (b : Int32) (h0 : Heap) (n0 : Nat) (Zs : n0 ≤ h0.size) :
    MetFree l (⟨"java/lang/Math", "min", "(II)I"⟩ : MethodName) (head1 (Jvm.Cond.code (⟨"java/lang/Math", "min", "(II)I"⟩ : MethodName) jdk_29_method_69_code 2 (some .int) :: ws) ({ frames := 0, cells := 0, slots := 0, locals := 0 } : Room)) (fun as' U => as' = #[(.int a), (.int b)] ∧ Z.Warmed39 U.vm ∧ U.heap = h0) (fun _ _ _ _ _ => True) (fun _ U o U' => ∃ v L, o = .returned v ∧ Q9 Z a b h0 n0 v U'.heap L ∧ FrameEnd U o U' L ({ frames := 0, cells := 0, slots := 0, locals := 0 } : Room).cells ({ frames := 0, cells := 0, slots := 0, locals := 0 } : Room).slots) := by
  refine MetFree.of_bodySF (Jvm.Free.JP.mathPlain rfl (by decide +kernel)) hisR ?_
  intro p e s m args below meth c s₁ Bd hml0 hP hK
  obtain ⟨rfl, hZ, hh⟩ := hP
  have hx := Bd.exec
  have hby := Bd.bytes
  have hml : c.maxLocals = 2 := hml0
  have hown : s.vm.findClass "java/lang/Math" = some m.cls := findClass_of_methodNamed Bd.named
  have hnm := (name_of_methodNamed Bd.named Bd.method).1
  have hlk : meth.locks = false := Bd.notSynchronized
  have X0 : Stand p l e ({ frames := 0, cells := 0, slots := 0, locals := 0 } : Room) s m #[(.int a), (.int b)] below meth c s₁ [] 0 0 := Stand.of_body Bd
  have e0 : s₁.heap = h0 := by rw [← hh, Bd.state]; rfl
  have Nf := Fr.nil n0
  refine (?_ : Win p.tables e below (PostQ s (Q9 Z a b h0 n0) ({ frames := 0, cells := 0, slots := 0, locals := 0 } : Room).cells ({ frames := 0, cells := 0, slots := 0, locals := 0 } : Room).slots) (s₁.setTop (entryFrame m #[(.int a), (.int b)] 2)))
  rw [ef_9]
  show Win p.tables e below _ (s₁.setTop (mkF m 0 #[.val (.int a), .val (.int b)] []))
  refine s_iloadN (pc' := 1) X0.here hx (hb hby d9_0) rfl rfl ?_
  refine s_iloadN (pc' := 2) X0.here hx (hb hby d9_1) rfl rfl ?_
  by_cases hc2 : (b).toInt < (a).toInt
  · skip
    refine s_icmpYes (pc' := 9) X0.here hx (hb hby d9_2) (tltI (x := b) (y := a) hc2).2.2.1 (by decide) (by decide) ?_
    refine s_iloadN (pc' := 10) X0.here hx (hb hby d9_9) rfl rfl ?_
    refine winI X0 hx hlk e0 Bd.returns (hb hby d9_10) (by decide) (by decide) ?_
    exact ⟨Nf, rfl, _, rfl, by omega⟩
  · skip
    refine s_icmpNo (pc' := 5) X0.here hx (hb hby d9_2) rfl (fltI (x := b) (y := a) hc2).2.2.1 ?_
    refine s_iloadN (pc' := 6) X0.here hx (hb hby d9_5) rfl rfl ?_
    refine s_goto (pc' := 10) X0.here hx (hb hby d9_6) (by decide) (by decide) ?_
    refine winI X0 hx hlk e0 Bd.returns (hb hby d9_10) (by decide) (by decide) ?_
    exact ⟨Nf, rfl, _, rfl, by omega⟩
theorem d5_0 : decode prog_44_method_1_code 0 = .ok (.ldc2_w 3, 3) := by decide +kernel
theorem d5_3 : decode prog_44_method_1_code 3 = .ok (.iload_n 0, 1) := by decide +kernel
theorem d5_4 : decode prog_44_method_1_code 4 = .ok (.i2l, 1) := by decide +kernel
theorem d5_5 : decode prog_44_method_1_code 5 = .ok (.lmul, 1) := by decide +kernel
theorem d5_6 : decode prog_44_method_1_code 6 = .ok (.iload_n 1, 1) := by decide +kernel
theorem d5_7 : decode prog_44_method_1_code 7 = .ok (.i2l, 1) := by decide +kernel
theorem d5_8 : decode prog_44_method_1_code 8 = .ok (.invokestatic 5, 3) := by decide +kernel
theorem d5_11 : decode prog_44_method_1_code 11 = .ok (.ldc2_w 13, 3) := by decide +kernel
theorem d5_14 : decode prog_44_method_1_code 14 = .ok (.invokestatic 15, 3) := by decide +kernel
theorem d5_17 : decode prog_44_method_1_code 17 = .ok (.l2i, 1) := by decide +kernel
theorem d5_18 : decode prog_44_method_1_code 18 = .ok (.ireturn, 1) := by decide +kernel
theorem pn_5 : plainName "com/example/nearstable/nearstable/market/Market" = true := by first | (simp [plainName, overriddenIn]; done) | decide +kernel
theorem pd_0 : parseMethodDescriptor "(JJ)J" = some ⟨[.long, .long], some .long⟩ := by decide +kernel
theorem ef_5 (m : MethodId) (p0 : Int32) (p1 : Int32) : entryFrame m #[(.int p0), (.int p1)] 2 = mkF m 0 #[.val (.int p0), .val (.int p1)] [] := by first | (simp [entryFrame, mkF, argsToLocals, Value.category]; done) | rfl
def Q5 (Z : State) (p0 : Int32) (p1 : Int32) (h0 : Heap) (n0 : Nat) (v : Option Value) (h : Heap) (L : List Loc) : Prop := Fr n0 L ∧ h = h0 ∧ (∃ z : Int32, v = some (.int z) ∧ (2 * p0.toInt ≤ z.toInt ∧ p1.toInt ≤ z.toInt ∧ (z.toInt = 2 * p0.toInt ∨ z.toInt = p1.toInt)))
set_option maxRecDepth 65536 in
set_option maxHeartbeats 40000000 in
theorem rm5 (l : Launch) (Z : State) (a0 : Array Value) (hw : ∀ d ∈ tables_1, d.before a0 Z = true) (ws : List Jvm.Cond) (p0 : Int32) (p1 : Int32) (h0 : Heap) (n0 : Nat) (Zs : n0 ≤ h0.size) (hp : 0 ≤ p0.toInt ∧ p0.toInt ≤ 1000 ∧ 0 ≤ p1.toInt ∧ p1.toInt ≤ 1000) :
    MetFree l (⟨"com/example/nearstable/nearstable/market/Market", "grownLength", "(II)I"⟩ : MethodName) (head1 (Jvm.Cond.code (⟨"com/example/nearstable/nearstable/market/Market", "grownLength", "(II)I"⟩ : MethodName) prog_44_method_1_code 2 (some .int) :: ws) ({ frames := 1, cells := 0, slots := 0, locals := 15 } : Room)) (fun as' U => as' = #[(.int p0), (.int p1)] ∧ Z.Warmed39 U.vm ∧ U.heap = h0) (fun _ _ _ _ _ => True) (fun _ U o U' => ∃ v L, o = .returned v ∧ Q5 Z p0 p1 h0 n0 v U'.heap L ∧ FrameEnd U o U' L ({ frames := 1, cells := 0, slots := 0, locals := 15 } : Room).cells ({ frames := 1, cells := 0, slots := 0, locals := 15 } : Room).slots) := by
  refine MetFree.of_bodySF (plainFor_of_name pn_5) hisR ?_
  intro p e s m args below meth c s₁ Bd hml0 hP hK
  obtain ⟨rfl, hZ, hh⟩ := hP
  have hx := Bd.exec
  have hby := Bd.bytes
  have hml : c.maxLocals = 2 := hml0
  have hown : s.vm.findClass "com/example/nearstable/nearstable/market/Market" = some m.cls := findClass_of_methodNamed Bd.named
  have hnm := (name_of_methodNamed Bd.named Bd.method).1
  have hlk : meth.locks = false := Bd.notSynchronized
  have X0 : Stand p l e ({ frames := 1, cells := 0, slots := 0, locals := 15 } : Room) s m #[(.int p0), (.int p1)] below meth c s₁ [] 0 0 := Stand.of_body Bd
  have e0 : s₁.heap = h0 := by rw [← hh, Bd.state]; rfl
  have Nf := Fr.nil n0
  refine (?_ : Win p.tables e below (PostQ s (Q5 Z p0 p1 h0 n0) ({ frames := 1, cells := 0, slots := 0, locals := 15 } : Room).cells ({ frames := 1, cells := 0, slots := 0, locals := 15 } : Room).slots) (s₁.setTop (entryFrame m #[(.int p0), (.int p1)] 2)))
  rw [ef_5]
  show Win p.tables e below _ (s₁.setTop (mkF m 0 #[.val (.int p0), .val (.int p1)] []))
  refine Win.go (fun _ k => X0.ldc2Long hx hown (mvT hZ (hw _ (List.mem_of_getElem? (i := 41) rfl))) (g := (mkF m 0 #[.val (.int p0), .val (.int p1)] [])) rfl (hb hby d5_0) _ k) ?_
  show Win p.tables e below _ (s₁.setTop (mkF m 3 #[.val (.int p0), .val (.int p1)] [(.long (2 : Int64))]))
  refine s_iloadN (pc' := 4) X0.here hx (hb hby d5_3) rfl rfl ?_
  refine Win.go (fun _ k => XS.i2l X0.here hx rfl (hb hby d5_4) rfl k) ?_
  show Win p.tables e below _ (s₁.setTop (mkF m 5 #[.val (.int p0), .val (.int p1)] [(.long (p0.toInt64)), (.long (2 : Int64))]))
  refine s_lmul (pc' := 6) X0.here hx (hb hby d5_5) rfl ?_
  refine s_iloadN (pc' := 7) X0.here hx (hb hby d5_6) rfl rfl ?_
  refine Win.go (fun _ k => XS.i2l X0.here hx rfl (hb hby d5_7) rfl k) ?_
  show Win p.tables e below _ (s₁.setTop (mkF m 8 #[.val (.int p0), .val (.int p1)] [(.long (p1.toInt64)), (.long ((2 : Int64) * (p0.toInt64)))]))
  obtain ⟨_, _, ⟨T_16, L_16, k_16, n_16⟩, -, X_16, ⟨Lc_16, hQ_16, l_16, y_16, z_16⟩, st_16⟩ := Jvm.LawKit.callS X0 hx (y := (⟨"java/lang/Math", "max", "(JJ)J"⟩ : MethodName)) hown (mvT hZ (hw _ (List.mem_of_getElem? (i := 42) rfl))) (mvT hZ (hw _ (List.mem_of_getElem? (i := 43) rfl))) (mvT hZ (hw _ (List.mem_of_getElem? (i := 44) rfl))) (mvT hZ (hw _ (List.mem_of_getElem? (i := 45) rfl))) (by decide) (backOf (W := 0) (rm6 l Z a0 hw [] ((2 : Int64) * (p0.toInt64)) (p1.toInt64) h0 n0 Zs ) hZ (hw _ (List.mem_of_getElem? (i := 45) rfl)) (hw _ (List.mem_of_getElem? (i := 44) rfl)) (by decide) (by decide)) (g := (mkF m 8 #[.val (.int p0), .val (.int p1)] [(.long (p1.toInt64)), (.long ((2 : Int64) * (p0.toInt64)))])) rfl (by rw [hml]; rfl) (argsL := [(.long ((2 : Int64) * (p0.toInt64))), (.long (p1.toInt64))]) (rest := []) (lenOf pd_0 rfl) rfl (by show 2 * 0 + _ ≤ _; exact Nat.le_of_eq rfl) (hb hby d5_8) (fun _ _ => ⟨rfl, e0, (by decide : 0 + 0 ≤ _), (by decide : 0 + 0 ≤ _)⟩)
  dsimp only [Pt.U, Pt.locs, Pt.cells, Pt.slots] at X_16 l_16 y_16 z_16 st_16 hQ_16
  subst l_16 y_16 z_16
  obtain ⟨Nq_16, e_16, r1, rfl, hr1⟩ := hQ_16
  replace Nf := Fr.app Nf Nq_16
  refine Win.go st_16 ?_
  clear st_16 Nq_16 X0 e0
  show Win p.tables e below _ (T_16.setTop (mkF m 11 #[.val (.int p0), .val (.int p1)] [(.long r1)]))
  refine Win.go (fun _ k => X_16.ldc2Long hx hown (mvT hZ (hw _ (List.mem_of_getElem? (i := 46) rfl))) (g := (mkF m 11 #[.val (.int p0), .val (.int p1)] [(.long r1)])) rfl (hb hby d5_11) _ k) ?_
  show Win p.tables e below _ (T_16.setTop (mkF m 14 #[.val (.int p0), .val (.int p1)] [(.long (2147483639 : Int64)), (.long r1)]))
  obtain ⟨_, _, ⟨T_17, L_17, k_17, n_17⟩, -, X_17, ⟨Lc_17, hQ_17, l_17, y_17, z_17⟩, st_17⟩ := Jvm.LawKit.callS X_16 hx (y := (⟨"java/lang/Math", "min", "(JJ)J"⟩ : MethodName)) hown (mvT hZ (hw _ (List.mem_of_getElem? (i := 47) rfl))) (mvT hZ (hw _ (List.mem_of_getElem? (i := 48) rfl))) (mvT hZ (hw _ (List.mem_of_getElem? (i := 44) rfl))) (mvT hZ (hw _ (List.mem_of_getElem? (i := 49) rfl))) (by decide) (backOf (W := 0) (rm7 l Z a0 hw [] r1 (2147483639 : Int64) h0 n0 Zs ) hZ (hw _ (List.mem_of_getElem? (i := 49) rfl)) (hw _ (List.mem_of_getElem? (i := 44) rfl)) (by decide) (by decide)) (g := (mkF m 14 #[.val (.int p0), .val (.int p1)] [(.long (2147483639 : Int64)), (.long r1)])) rfl (by rw [hml]; rfl) (argsL := [(.long r1), (.long (2147483639 : Int64))]) (rest := []) (lenOf pd_0 rfl) rfl (by show 2 * 0 + _ ≤ _; exact Nat.le_of_eq rfl) (hb hby d5_14) (fun _ _ => ⟨rfl, e_16, (by decide : 0 + 0 ≤ _), (by decide : 0 + 0 ≤ _)⟩)
  dsimp only [Pt.U, Pt.locs, Pt.cells, Pt.slots] at X_17 l_17 y_17 z_17 st_17 hQ_17
  subst l_17 y_17 z_17
  obtain ⟨Nq_17, e_17, r2, rfl, hr2⟩ := hQ_17
  replace Nf := Fr.app Nf Nq_17
  refine Win.go st_17 ?_
  clear st_17 Nq_17 X_16 e_16
  show Win p.tables e below _ (T_17.setTop (mkF m 17 #[.val (.int p0), .val (.int p1)] [(.long r2)]))
  refine Win.go (fun _ k => XS.l2i X_17.here hx rfl (hb hby d5_17) rfl k) ?_
  show Win p.tables e below _ (T_17.setTop (mkF m 18 #[.val (.int p0), .val (.int p1)] [(.int (r2.toInt32))]))
  refine winI X_17 hx hlk e_17 Bd.returns (hb hby d5_18) (by decide) (by decide) ?_
  refine ⟨Nf, rfl, _, rfl, ?_⟩
  have h1 := c_lmul 2 p0.toInt64
  have h2 : (2 : Int64).toInt = 2 := rfl
  rw [h2, c_i2l] at h1
  have h3 := rng64 (2 * p0.toInt64)
  rw [c_i2l] at hr1
  have h4 : (2147483639 : Int64).toInt = 2147483639 := rfl
  rw [h4] at hr2
  have h5 := c_l2i r2
  have h6 := rng32 r2.toInt32
  omega
theorem d8_0 : decode jdk_65_method_121_code 0 = .ok (.iload_n 1, 1) := by decide +kernel
theorem d8_1 : decode jdk_65_method_121_code 1 = .ok (.aload_n 0, 1) := by decide +kernel
theorem d8_2 : decode jdk_65_method_121_code 2 = .ok (.arraylength, 1) := by decide +kernel
theorem d8_3 : decode jdk_65_method_121_code 3 = .ok (.if_icmp .ne 11, 3) := by decide +kernel
theorem d8_14 : decode jdk_65_method_121_code 14 = .ok (.iload_n 1, 1) := by decide +kernel
theorem d8_15 : decode jdk_65_method_121_code 15 = .ok (.newarray .byte, 2) := by decide +kernel
theorem d8_17 : decode jdk_65_method_121_code 17 = .ok (.astore_n 2, 1) := by decide +kernel
theorem d8_18 : decode jdk_65_method_121_code 18 = .ok (.aload_n 0, 1) := by decide +kernel
theorem d8_19 : decode jdk_65_method_121_code 19 = .ok (.iconst 0, 1) := by decide +kernel
theorem d8_20 : decode jdk_65_method_121_code 20 = .ok (.aload_n 2, 1) := by decide +kernel
theorem d8_21 : decode jdk_65_method_121_code 21 = .ok (.iconst 0, 1) := by decide +kernel
theorem d8_22 : decode jdk_65_method_121_code 22 = .ok (.aload_n 0, 1) := by decide +kernel
theorem d8_23 : decode jdk_65_method_121_code 23 = .ok (.arraylength, 1) := by decide +kernel
theorem d8_24 : decode jdk_65_method_121_code 24 = .ok (.iload_n 1, 1) := by decide +kernel
theorem d8_25 : decode jdk_65_method_121_code 25 = .ok (.invokestatic 304, 3) := by decide +kernel
theorem d8_28 : decode jdk_65_method_121_code 28 = .ok (.invokestatic 150, 3) := by decide +kernel
theorem d8_31 : decode jdk_65_method_121_code 31 = .ok (.aload_n 2, 1) := by decide +kernel
theorem d8_32 : decode jdk_65_method_121_code 32 = .ok (.areturn, 1) := by decide +kernel
theorem pn_8 : plainName "java/util/Arrays" = true := by first | (simp [plainName, overriddenIn]; done) | decide +kernel
theorem pd_1 : parseMethodDescriptor "(II)I" = some ⟨[.int, .int], some .int⟩ := by decide +kernel
theorem ef_8 (m : MethodId) (b : Addr) (p1 : Int32) : entryFrame m #[(.ref b), (.int p1)] 3 = mkF m 0 #[.val (.ref b), .val (.int p1), .unset] [] := by first | (simp [entryFrame, mkF, argsToLocals, Value.category]; done) | rfl
def Q8 (Z : State) (b : Addr) (p1 : Int32) (z : Int32) (h0 : Heap) (n0 : Nat) (v : Option Value) (h : Heap) (L : List Loc) : Prop := Fr n0 L ∧ Keep h0 h [] ∧ (∃ (c : Addr) , v = some (.ref c) ∧ n0 ≤ c ∧ h0.size ≤ c ∧ BA Z h c p1)
set_option maxRecDepth 65536 in
set_option maxHeartbeats 40000000 in
theorem rm8 (l : Launch) (Z : State) (a0 : Array Value) (hw : ∀ d ∈ tables_1, d.before a0 Z = true) (ws : List Jvm.Cond) (b : Addr) (p1 : Int32) (z : Int32) (h0 : Heap) (n0 : Nat) (Zs : n0 ≤ h0.size) (B_b : BA Z h0 b z) (hp : 0 ≤ z.toInt ∧ z.toInt < p1.toInt ∧ p1.toInt ≤ 128) :
    MetFree l (⟨"java/util/Arrays", "copyOf", "([BI)[B"⟩ : MethodName) (head1 (Jvm.Cond.code (⟨"java/util/Arrays", "copyOf", "([BI)[B"⟩ : MethodName) jdk_65_method_121_code 3 (some (.array .byte)) :: ws) ({ frames := 1, cells := 1, slots := 128, locals := 40 } : Room)) (fun as' U => as' = #[(.ref b), (.int p1)] ∧ Z.Warmed39 U.vm ∧ U.heap = h0) (fun _ _ _ _ _ => True) (fun _ U o U' => ∃ v L, o = .returned v ∧ Q8 Z b p1 z h0 n0 v U'.heap L ∧ FrameEnd U o U' L ({ frames := 1, cells := 1, slots := 128, locals := 40 } : Room).cells ({ frames := 1, cells := 1, slots := 128, locals := 40 } : Room).slots) := by
  refine MetFree.of_bodySF (plainFor_of_name pn_8) hisR ?_
  intro p e s m args below meth c s₁ Bd hml0 hP hK
  obtain ⟨rfl, hZ, hh⟩ := hP
  have hx := Bd.exec
  have hby := Bd.bytes
  have hml : c.maxLocals = 3 := hml0
  have hown : s.vm.findClass "java/util/Arrays" = some m.cls := findClass_of_methodNamed Bd.named
  have hnm := (name_of_methodNamed Bd.named Bd.method).1
  have hlk : meth.locks = false := Bd.notSynchronized
  have X0 : Stand p l e ({ frames := 1, cells := 1, slots := 128, locals := 40 } : Room) s m #[(.ref b), (.int p1)] below meth c s₁ [] 0 0 := Stand.of_body Bd
  have e0 : s₁.heap = h0 := by rw [← hh, Bd.state]; rfl
  have Nf := Fr.nil n0
  refine (?_ : Win p.tables e below (PostQ s (Q8 Z b p1 z h0 n0) ({ frames := 1, cells := 1, slots := 128, locals := 40 } : Room).cells ({ frames := 1, cells := 1, slots := 128, locals := 40 } : Room).slots) (s₁.setTop (entryFrame m #[(.ref b), (.int p1)] 3)))
  rw [ef_8]
  have Kp : Keep h0 h0 [] := Keep.refl h0 _
  have lt_b : b < h0.size := B_b.lt
  show Win p.tables e below _ (s₁.setTop (mkF m 0 #[.val (.ref b), .val (.int p1), .unset] []))
  refine s_iloadN (pc' := 1) X0.here hx (hb hby d8_0) rfl rfl ?_
  refine s_aloadN (pc' := 2) X0.here hx (hb hby d8_1) rfl rfl rfl ?_
  obtain ⟨k_18, vs_18, cl_18, Ar_18, q_18, S_18, N_18, H_18, G_18⟩ := id B_b
  refine Win.go (fun _ k => X0.arraylength hx (by rw [e0]; exact Ar_18.1) (State.isArrayOf_alike hZ.alike Ar_18.2.1) (g := (mkF m 2 #[.val (.ref b), .val (.int p1), .unset] [(.ref b), (.int p1)])) rfl rfl (hb hby d8_2) _ k) ?_
  rw [len_of S_18 N_18]
  clear Ar_18 q_18 S_18 N_18 H_18 G_18
  show Win p.tables e below _ (s₁.setTop (mkF m 3 #[.val (.ref b), .val (.int p1), .unset] [(.int z), (.int p1)]))
  by_cases hc3 : (p1).toInt = (z).toInt
  · skip
    exfalso
    omega
  · skip
    refine s_icmpYes (pc' := 14) X0.here hx (hb hby d8_3) (feqI (x := p1) (y := z) hc3).2 (by decide) (by decide) ?_
    refine s_iloadN (pc' := 15) X0.here hx (hb hby d8_14) rfl rfl ?_
    obtain ⟨T_19, h_19, k_19, X_19, e_19, Ex_19, A_19, EA_19, st_19⟩ := newPE X0 hx hZ (hw _ (List.mem_of_getElem? (i := 0) rfl)) e0 (g := (mkF m 15 #[.val (.ref b), .val (.int p1), .unset] [(.int p1)])) rfl (hb hby d8_15) rfl (by rw [Int32.lt_iff_toInt_lt]; have e0 : (0 : Int32).toInt = 0 := rfl; omega) (cap := 128) (by simp only [Int32.toNatClampNeg]; omega) (by decide) (by decide) (by decide) (ad := "[B") (by decide)
    obtain ⟨b_19, g_19⟩ : ∃ z, z = h0.size := ⟨_, rfl⟩
    have ne_b_b_19 : b ≠ b_19 := Nat.ne_of_lt (Nat.lt_of_lt_of_le lt_b (Nat.le_of_eq g_19.symm))
    have g_b_19 : n0 ≤ b_19 := Nat.le_trans Zs (Nat.le_of_eq g_19.symm)
    have sz_b_19 : h0.size ≤ b_19 := Nat.le_trans Kp.1 (Nat.le_of_eq g_19.symm)
    rw [← g_19] at A_19 EA_19 st_19
    replace B_b := B_b.ext Ex_19
    replace lt_b := Nat.lt_of_lt_of_le lt_b Ex_19.1
    replace Zs := Nat.le_trans Zs Ex_19.1
    replace Kp := Kp.ext Ex_19
    have B_b_19 : BA Z h_19 b_19 p1 := ⟨_, _, Arv.new A_19 (by rw [Int32.lt_iff_toInt_lt]; have e0 : (0 : Int32).toInt = 0 := rfl; omega)⟩
    have lt_b_19 := B_b_19.lt
    refine Win.go st_19 ?_
    clear st_19 Ex_19 A_19 EA_19 g_19 X0 e0
    show Win p.tables e below _ (T_19.setTop (mkF m 17 #[.val (.ref b), .val (.int p1), .unset] [(.ref b_19)]))
    refine s_astoreN (pc' := 18) (l' := #[.val (.ref b), .val (.int p1), .val (.ref b_19)]) X_19.here hx (hb hby d8_17) rfl rfl rfl ?_
    refine s_aloadN (pc' := 19) X_19.here hx (hb hby d8_18) rfl rfl rfl ?_
    refine s_iconst (pc' := 20) (z := (0 : Int32)) X_19.here hx (hb hby d8_19) rfl rfl ?_
    refine s_aloadN (pc' := 21) X_19.here hx (hb hby d8_20) rfl rfl rfl ?_
    refine s_iconst (pc' := 22) (z := (0 : Int32)) X_19.here hx (hb hby d8_21) rfl rfl ?_
    refine s_aloadN (pc' := 23) X_19.here hx (hb hby d8_22) rfl rfl rfl ?_
    obtain ⟨k_20, vs_20, cl_20, Ar_20, q_20, S_20, N_20, H_20, G_20⟩ := id B_b
    refine Win.go (fun _ k => X_19.arraylength hx (by rw [e_19]; exact Ar_20.1) (State.isArrayOf_alike hZ.alike Ar_20.2.1) (g := (mkF m 23 #[.val (.ref b), .val (.int p1), .val (.ref b_19)] [(.ref b), (.int (0 : Int32)), (.ref b_19), (.int (0 : Int32)), (.ref b)])) rfl rfl (hb hby d8_23) _ k) ?_
    rw [len_of S_20 N_20]
    clear Ar_20 q_20 S_20 N_20 H_20 G_20
    show Win p.tables e below _ (T_19.setTop (mkF m 24 #[.val (.ref b), .val (.int p1), .val (.ref b_19)] [(.int z), (.int (0 : Int32)), (.ref b_19), (.int (0 : Int32)), (.ref b)]))
    refine s_iloadN (pc' := 25) X_19.here hx (hb hby d8_24) rfl rfl ?_
    obtain ⟨_, _, ⟨T_21, L_21, k_21, n_21⟩, -, X_21, ⟨Lc_21, hQ_21, l_21, y_21, z_21⟩, st_21⟩ := Jvm.LawKit.callS X_19 hx (y := (⟨"java/lang/Math", "min", "(II)I"⟩ : MethodName)) hown (mvT hZ (hw _ (List.mem_of_getElem? (i := 54) rfl))) (mvT hZ (hw _ (List.mem_of_getElem? (i := 55) rfl))) (mvT hZ (hw _ (List.mem_of_getElem? (i := 44) rfl))) (mvT hZ (hw _ (List.mem_of_getElem? (i := 56) rfl))) (by decide) (backOf (W := 4) (rm9 l Z a0 hw [] z p1 h_19 n0 Zs ) hZ (hw _ (List.mem_of_getElem? (i := 56) rfl)) (hw _ (List.mem_of_getElem? (i := 44) rfl)) (by decide) (by decide)) (g := (mkF m 25 #[.val (.ref b), .val (.int p1), .val (.ref b_19)] [(.int p1), (.int z), (.int (0 : Int32)), (.ref b_19), (.int (0 : Int32)), (.ref b)])) rfl (by rw [hml]; rfl) (argsL := [(.int z), (.int p1)]) (rest := [(.int (0 : Int32)), (.ref b_19), (.int (0 : Int32)), (.ref b)]) (lenOf pd_1 rfl) rfl (by show 2 * 0 + _ ≤ _; exact Nat.le_of_eq rfl) (hb hby d8_25) (fun _ _ => ⟨rfl, e_19, (by decide : 1 + 0 ≤ _), (by decide : 128 + 0 ≤ _)⟩)
    dsimp only [Pt.U, Pt.locs, Pt.cells, Pt.slots] at X_21 l_21 y_21 z_21 st_21 hQ_21
    subst l_21 y_21 z_21
    obtain ⟨Nq_21, e_21, mn, rfl, hmn⟩ := hQ_21
    replace Nf := Fr.app Nf Nq_21
    refine Win.go st_21 ?_
    clear st_21 Nq_21 X_19 e_19
    show Win p.tables e below _ (T_21.setTop (mkF m 28 #[.val (.ref b), .val (.int p1), .val (.ref b_19)] [(.int mn), (.int (0 : Int32)), (.ref b_19), (.int (0 : Int32)), (.ref b)]))
    obtain ⟨T_22, h_22, L_22, X_22, e_22, Nf', K_22, B_22, st_22⟩ := cpBA X_21 hx hZ hown (hw _ (List.mem_of_getElem? (i := 57) rfl)) (hw _ (List.mem_of_getElem? (i := 35) rfl)) (hw _ (List.mem_of_getElem? (i := 33) rfl)) (hw _ (List.mem_of_getElem? (i := 34) rfl)) e_21 B_b B_b_19 (by decide) (by decide) (by omega) (by have e0 : (0 : Int32).toInt = 0 := rfl; omega) (by have e0 : (0 : Int32).toInt = 0 := rfl; omega) Nf g_b_19 (g := (mkF m 28 #[.val (.ref b), .val (.int p1), .val (.ref b_19)] [(.int mn), (.int (0 : Int32)), (.ref b_19), (.int (0 : Int32)), (.ref b)])) rfl (by rw [hml]; rfl) rfl (hb hby d8_28) (by decide) (W := 0) (by show 2 * 0 + _ ≤ _; exact Nat.le_of_eq rfl) (by decide)
    replace B_b := B_b.keep K_22 (ninS ne_b_b_19 nin0)
    replace lt_b := Nat.lt_of_lt_of_le lt_b K_22.1
    replace lt_b_19 := Nat.lt_of_lt_of_le lt_b_19 K_22.1
    replace Zs := Nat.le_trans Zs K_22.1
    replace Kp := Kp.trans K_22 (allS (Or.inr sz_b_19) all0)
    replace B_b_19 := B_22
    replace Nf := Nf'
    refine Win.go st_22 ?_
    show Win p.tables e below _ (T_22.setTop (mkF m 31 #[.val (.ref b), .val (.int p1), .val (.ref b_19)] []))
    refine s_aloadN (pc' := 32) X_22.here hx (hb hby d8_31) rfl rfl rfl ?_
    refine winA X_22 hx hlk e_22 Bd.returns rfl rfl (hb hby d8_32) (by decide) (by decide) ?_
    exact ⟨Nf, Kp, b_19, rfl, g_b_19, sz_b_19, B_b_19⟩
theorem d3_0 : decode prog_38_method_5_code 0 = .ok (.aload_n 0, 1) := by decide +kernel
theorem d3_1 : decode prog_38_method_5_code 1 = .ok (.aload_n 0, 1) := by decide +kernel
theorem d3_2 : decode prog_38_method_5_code 2 = .ok (.getfield 23, 3) := by decide +kernel
theorem d3_5 : decode prog_38_method_5_code 5 = .ok (.invokevirtual 27, 3) := by decide +kernel
theorem d3_8 : decode prog_38_method_5_code 8 = .ok (.istore 4, 2) := by decide +kernel
theorem d3_10 : decode prog_38_method_5_code 10 = .ok (.iload_n 2, 1) := by decide +kernel
theorem d3_11 : decode prog_38_method_5_code 11 = .ok (.ldc 33, 2) := by decide +kernel
theorem d3_13 : decode prog_38_method_5_code 13 = .ok (.iload 4, 2) := by decide +kernel
theorem d3_15 : decode prog_38_method_5_code 15 = .ok (.isub, 1) := by decide +kernel
theorem d3_16 : decode prog_38_method_5_code 16 = .ok (.if_icmp .le 13, 3) := by decide +kernel
theorem d3_29 : decode prog_38_method_5_code 29 = .ok (.iload 4, 2) := by decide +kernel
theorem d3_31 : decode prog_38_method_5_code 31 = .ok (.iload_n 2, 1) := by decide +kernel
theorem d3_32 : decode prog_38_method_5_code 32 = .ok (.iadd, 1) := by decide +kernel
theorem d3_33 : decode prog_38_method_5_code 33 = .ok (.aload_n 0, 1) := by decide +kernel
theorem d3_34 : decode prog_38_method_5_code 34 = .ok (.getfield 7, 3) := by decide +kernel
theorem d3_37 : decode prog_38_method_5_code 37 = .ok (.arraylength, 1) := by decide +kernel
theorem d3_38 : decode prog_38_method_5_code 38 = .ok (.if_icmp .le 26, 3) := by decide +kernel
theorem d3_41 : decode prog_38_method_5_code 41 = .ok (.aload_n 0, 1) := by decide +kernel
theorem d3_42 : decode prog_38_method_5_code 42 = .ok (.aload_n 0, 1) := by decide +kernel
theorem d3_43 : decode prog_38_method_5_code 43 = .ok (.getfield 7, 3) := by decide +kernel
theorem d3_46 : decode prog_38_method_5_code 46 = .ok (.aload_n 0, 1) := by decide +kernel
theorem d3_47 : decode prog_38_method_5_code 47 = .ok (.getfield 7, 3) := by decide +kernel
theorem d3_50 : decode prog_38_method_5_code 50 = .ok (.arraylength, 1) := by decide +kernel
theorem d3_51 : decode prog_38_method_5_code 51 = .ok (.iload 4, 2) := by decide +kernel
theorem d3_53 : decode prog_38_method_5_code 53 = .ok (.iload_n 2, 1) := by decide +kernel
theorem d3_54 : decode prog_38_method_5_code 54 = .ok (.iadd, 1) := by decide +kernel
theorem d3_55 : decode prog_38_method_5_code 55 = .ok (.invokestatic 41, 3) := by decide +kernel
theorem d3_58 : decode prog_38_method_5_code 58 = .ok (.invokestatic 45, 3) := by decide +kernel
theorem d3_61 : decode prog_38_method_5_code 61 = .ok (.putfield 7, 3) := by decide +kernel
theorem d3_64 : decode prog_38_method_5_code 64 = .ok (.aload_n 0, 1) := by decide +kernel
theorem d3_65 : decode prog_38_method_5_code 65 = .ok (.getfield 23, 3) := by decide +kernel
theorem d3_68 : decode prog_38_method_5_code 68 = .ok (.aload_n 0, 1) := by decide +kernel
theorem d3_69 : decode prog_38_method_5_code 69 = .ok (.getfield 13, 3) := by decide +kernel
theorem d3_72 : decode prog_38_method_5_code 72 = .ok (.arraylength, 1) := by decide +kernel
theorem d3_73 : decode prog_38_method_5_code 73 = .ok (.if_icmp .ne 43, 3) := by decide +kernel
theorem d3_116 : decode prog_38_method_5_code 116 = .ok (.aload_n 1, 1) := by decide +kernel
theorem d3_117 : decode prog_38_method_5_code 117 = .ok (.iconst 0, 1) := by decide +kernel
theorem d3_118 : decode prog_38_method_5_code 118 = .ok (.aload_n 0, 1) := by decide +kernel
theorem d3_119 : decode prog_38_method_5_code 119 = .ok (.getfield 7, 3) := by decide +kernel
theorem d3_122 : decode prog_38_method_5_code 122 = .ok (.iload 4, 2) := by decide +kernel
theorem d3_124 : decode prog_38_method_5_code 124 = .ok (.iload_n 2, 1) := by decide +kernel
theorem d3_125 : decode prog_38_method_5_code 125 = .ok (.invokestatic 54, 3) := by decide +kernel
theorem d3_128 : decode prog_38_method_5_code 128 = .ok (.aload_n 0, 1) := by decide +kernel
theorem d3_129 : decode prog_38_method_5_code 129 = .ok (.getfield 13, 3) := by decide +kernel
theorem d3_132 : decode prog_38_method_5_code 132 = .ok (.aload_n 0, 1) := by decide +kernel
theorem d3_133 : decode prog_38_method_5_code 133 = .ok (.getfield 23, 3) := by decide +kernel
theorem d3_136 : decode prog_38_method_5_code 136 = .ok (.iload 4, 2) := by decide +kernel
theorem d3_138 : decode prog_38_method_5_code 138 = .ok (.iload_n 2, 1) := by decide +kernel
theorem d3_139 : decode prog_38_method_5_code 139 = .ok (.iadd, 1) := by decide +kernel
theorem d3_140 : decode prog_38_method_5_code 140 = .ok (.iastore, 1) := by decide +kernel
theorem d3_141 : decode prog_38_method_5_code 141 = .ok (.aload_n 0, 1) := by decide +kernel
theorem d3_142 : decode prog_38_method_5_code 142 = .ok (.getfield 17, 3) := by decide +kernel
theorem d3_145 : decode prog_38_method_5_code 145 = .ok (.aload_n 0, 1) := by decide +kernel
theorem d3_146 : decode prog_38_method_5_code 146 = .ok (.dup, 1) := by decide +kernel
theorem d3_147 : decode prog_38_method_5_code 147 = .ok (.getfield 23, 3) := by decide +kernel
theorem d3_150 : decode prog_38_method_5_code 150 = .ok (.dup_x1, 1) := by decide +kernel
theorem d3_151 : decode prog_38_method_5_code 151 = .ok (.iconst 1, 1) := by decide +kernel
theorem d3_152 : decode prog_38_method_5_code 152 = .ok (.iadd, 1) := by decide +kernel
theorem d3_153 : decode prog_38_method_5_code 153 = .ok (.putfield 23, 3) := by decide +kernel
theorem d3_156 : decode prog_38_method_5_code 156 = .ok (.iload_n 3, 1) := by decide +kernel
theorem d3_157 : decode prog_38_method_5_code 157 = .ok (.iastore, 1) := by decide +kernel
theorem d3_158 : decode prog_38_method_5_code 158 = .ok (.return_, 1) := by decide +kernel
theorem pd_2 : parseMethodDescriptor "(I)I" = some ⟨[.int], some .int⟩ := by decide +kernel
theorem pd_3 : parseMethodDescriptor "([BI)[B" = some ⟨[(.array .byte), .int], some (.array .byte)⟩ := by decide +kernel
theorem ef_3_0 (m : MethodId) (a : Addr) (u : Addr) (p2 : Int32) (p3 : Int32) : entryFrame m #[(.ref a), (.ref u), (.int p2), (.int p3)] 5 = mkF m 0 #[.val (.ref a), .val (.ref u), .val (.int p2), .val (.int p3), .unset] [] := by first | (simp [entryFrame, mkF, argsToLocals, Value.category]; done) | rfl
def Q3_0 (Z : State) (a : Addr) (u : Addr) (p2 : Int32) (p3 : Int32) (bt : Addr) (en : Addr) (li : Addr) (z : Int32) (ef : Int → Int32) (lf : Int → Int32) (h0 : Heap) (n0 : Nat) (v : Option Value) (h : Heap) (L : List Loc) : Prop := Fr n0 L ∧ Keep h0 h [a, bt, en, li] ∧ (∃ (bt2 : Addr) (z2 : Int32), (n0 ≤ bt2) ∧ (bt2 ≠ en) ∧ (bt2 ≠ li) ∧ (bt2 ≠ a) ∧ (bt2 ≠ u) ∧ (16 ≤ z2.toInt ∧ z2.toInt ≤ 32) ∧ (Fld Z h a "com/example/nearstable/nearstable/files/StringBatch" "bytes" "[B" (.ref bt2)) ∧ (Fld Z h a "com/example/nearstable/nearstable/files/StringBatch" "ends" "[I" (.ref en)) ∧ (Fld Z h a "com/example/nearstable/nearstable/files/StringBatch" "lines" "[I" (.ref li)) ∧ (Fld Z h a "com/example/nearstable/nearstable/files/StringBatch" "count" "I" (.int (1 : Int32))) ∧ (BA Z h bt2 z2) ∧ (AF Z h en .int 16 (updF ef (0 : Int) ((0 : Int32) + p2))) ∧ (AF Z h li .int 16 (updF lf (0 : Int) p3))) ∧ v = none
set_option maxRecDepth 65536 in
set_option maxHeartbeats 40000000 in
theorem rm3_0 (l : Launch) (Z : State) (a0 : Array Value) (hw : ∀ d ∈ tables_1, d.before a0 Z = true) (ws : List Jvm.Cond) (a : Addr) (u : Addr) (p2 : Int32) (p3 : Int32) (bt : Addr) (en : Addr) (li : Addr) (z : Int32) (ef : Int → Int32) (lf : Int → Int32) (h0 : Heap) (n0 : Nat) (Zs : n0 ≤ h0.size) (E_a : Exa Z h0 a "com/example/nearstable/nearstable/files/StringBatch") (F_bytes_a : Fld Z h0 a "com/example/nearstable/nearstable/files/StringBatch" "bytes" "[B" (.ref bt)) (F_ends_a : Fld Z h0 a "com/example/nearstable/nearstable/files/StringBatch" "ends" "[I" (.ref en)) (F_lines_a : Fld Z h0 a "com/example/nearstable/nearstable/files/StringBatch" "lines" "[I" (.ref li)) (F_count_a : Fld Z h0 a "com/example/nearstable/nearstable/files/StringBatch" "count" "I" (.int (0 : Int32))) (B_bt : BA Z h0 bt z) (A_en : AF Z h0 en .int 16 ef) (A_li : AF Z h0 li .int 16 lf) (B_u : BA Z h0 u (32 : Int32)) (g_a : n0 ≤ a) (g_bt : n0 ≤ bt) (g_en : n0 ≤ en) (g_li : n0 ≤ li) (ne_a_bt : a ≠ bt) (ne_a_en : a ≠ en) (ne_a_li : a ≠ li) (ne_a_u : a ≠ u) (ne_bt_en : bt ≠ en) (ne_bt_li : bt ≠ li) (ne_bt_u : bt ≠ u) (ne_en_li : en ≠ li) (ne_en_u : en ≠ u) (ne_li_u : li ≠ u) (hp : 0 ≤ p2.toInt ∧ p2.toInt ≤ 31 ∧ 16 ≤ z.toInt ∧ z.toInt ≤ 16) (hq : True) :
    MetFree l (⟨"com/example/nearstable/nearstable/files/StringBatch", "add", "([BII)V"⟩ : MethodName) (head1 (Jvm.Cond.code (⟨"com/example/nearstable/nearstable/files/StringBatch", "add", "([BII)V"⟩ : MethodName) prog_38_method_5_code 5 none :: ws) ({ frames := 2, cells := 1, slots := 128, locals := 55 } : Room)) (fun as' U => as' = #[(.ref a), (.ref u), (.int p2), (.int p3)] ∧ Z.Warmed39 U.vm ∧ U.heap = h0) (fun _ _ _ _ _ => True) (fun _ U o U' => ∃ v L, o = .returned v ∧ Q3_0 Z a u p2 p3 bt en li z ef lf h0 n0 v U'.heap L ∧ FrameEnd U o U' L ({ frames := 2, cells := 1, slots := 128, locals := 55 } : Room).cells ({ frames := 2, cells := 1, slots := 128, locals := 55 } : Room).slots) := by
  refine MetFree.of_bodySF (plainFor_of_name pn_1) hisR ?_
  intro p e s m args below meth c s₁ Bd hml0 hP hK
  obtain ⟨rfl, hZ, hh⟩ := hP
  have hx := Bd.exec
  have hby := Bd.bytes
  have hml : c.maxLocals = 5 := hml0
  have hown : s.vm.findClass "com/example/nearstable/nearstable/files/StringBatch" = some m.cls := findClass_of_methodNamed Bd.named
  have hnm := (name_of_methodNamed Bd.named Bd.method).1
  have hlk : meth.locks = false := Bd.notSynchronized
  have X0 : Stand p l e ({ frames := 2, cells := 1, slots := 128, locals := 55 } : Room) s m #[(.ref a), (.ref u), (.int p2), (.int p3)] below meth c s₁ [] 0 0 := Stand.of_body Bd
  have e0 : s₁.heap = h0 := by rw [← hh, Bd.state]; rfl
  have Nf := Fr.nil n0
  refine (?_ : Win p.tables e below (PostQ s (Q3_0 Z a u p2 p3 bt en li z ef lf h0 n0) ({ frames := 2, cells := 1, slots := 128, locals := 55 } : Room).cells ({ frames := 2, cells := 1, slots := 128, locals := 55 } : Room).slots) (s₁.setTop (entryFrame m #[(.ref a), (.ref u), (.int p2), (.int p3)] 5)))
  rw [ef_3_0]
  have Kp : Keep h0 h0 [a, bt, en, li] := Keep.refl h0 _
  have lt_a : a < h0.size := E_a.lt
  have lt_bt : bt < h0.size := B_bt.lt
  have lt_en : en < h0.size := A_en.lt
  have lt_li : li < h0.size := A_li.lt
  have lt_u : u < h0.size := B_u.lt
  show Win p.tables e below _ (s₁.setTop (mkF m 0 #[.val (.ref a), .val (.ref u), .val (.int p2), .val (.int p3), .unset] []))
  refine s_aloadN (pc' := 1) X0.here hx (hb hby d3_0) rfl rfl rfl ?_
  refine s_aloadN (pc' := 2) X0.here hx (hb hby d3_1) rfl rfl rfl ?_
  obtain ⟨T_23, X_23, e_23, st_23⟩ := getF X0 hx hZ hown (host := "") (Or.inl (hw _ (List.mem_of_getElem? (i := 24) rfl))) Via.refl e0 F_count_a (g := (mkF m 2 #[.val (.ref a), .val (.ref u), .val (.int p2), .val (.int p3), .unset] [(.ref a), (.ref a)])) rfl rfl (hb hby d3_2)
  refine Win.go st_23 ?_
  clear st_23 X0 e0
  show Win p.tables e below _ (T_23.setTop (mkF m 5 #[.val (.ref a), .val (.ref u), .val (.int p2), .val (.int p3), .unset] [(.int (0 : Int32)), (.ref a)]))
  obtain ⟨cq_24, kq_24, q_24a, q_24b, q_24c⟩ := isOf hZ e_23 E_a
  obtain ⟨_, _, ⟨T_24, L_24, k_24, n_24⟩, -, X_24, ⟨Lc_24, hQ_24, l_24, y_24, z_24⟩, st_24⟩ := X_23.virtualBack hx (y := (⟨"com/example/nearstable/nearstable/files/StringBatch", "start", "(I)I"⟩ : MethodName)) (z := (⟨"com/example/nearstable/nearstable/files/StringBatch", "start", "(I)I"⟩ : MethodName)) hown (mvT hZ (hw _ (List.mem_of_getElem? (i := 26) rfl))) (mvT hZ (hw _ (List.mem_of_getElem? (i := 27) rfl))) (notFace_of_selects (args := #[]) (mvT hZ (hw _ (List.mem_of_getElem? (i := 29) rfl)))) (mvT hZ (hw _ (List.mem_of_getElem? (i := 29) rfl))) (mvT hZ (hw _ (List.mem_of_getElem? (i := 28) rfl))) (by decide) (backOf (W := 0) (rm4_0 l Z a0 hw [] a h0 n0 Zs ) hZ (hw _ (List.mem_of_getElem? (i := 30) rfl)) (hw _ (List.mem_of_getElem? (i := 3) rfl)) (by decide) (by decide)) q_24a q_24c (g := (mkF m 5 #[.val (.ref a), .val (.ref u), .val (.int p2), .val (.int p3), .unset] [(.int (0 : Int32)), (.ref a)])) rfl (by rw [hml]; rfl) (Steps.refl _) (argsL := [(.int (0 : Int32))]) (rest := []) (lenOf pd_2 rfl) rfl (by show 2 * 0 + _ ≤ _; exact Nat.le_of_eq rfl) (hb hby d3_5) (fun _ _ => ⟨rfl, e_23, (by decide : 0 + 0 ≤ _), (by decide : 0 + 0 ≤ _)⟩)
  dsimp only [Pt.U, Pt.locs, Pt.cells, Pt.slots] at X_24 l_24 y_24 z_24 st_24 hQ_24
  subst l_24 y_24 z_24
  obtain ⟨Nq_24, e_24, rfl⟩ := hQ_24
  replace Nf := Fr.app Nf Nq_24
  refine Win.come st_24 ?_
  clear st_24 Nq_24 X_23 e_23
  show Win p.tables e below _ (T_24.setTop (mkF m 8 #[.val (.ref a), .val (.ref u), .val (.int p2), .val (.int p3), .unset] [(.int (0 : Int32))]))
  refine s_istore (pc' := 10) (l' := #[.val (.ref a), .val (.ref u), .val (.int p2), .val (.int p3), .val (.int (0 : Int32))]) X_24.here hx (hb hby d3_8) rfl rfl ?_
  have hS : 0 ≤ (0 : Int32).toInt ∧ (0 : Int32).toInt ≤ 0 := by decide
  have hsp := own_sp ⟨hS.1, Int.le_trans hS.2 (by decide)⟩ hp.1 hp.2.1
  refine s_iloadN (pc' := 11) X_24.here hx (hb hby d3_10) rfl rfl ?_
  refine Win.go (fun _ k => X_24.ldcInt hx hown (mvT hZ (hw _ (List.mem_of_getElem? (i := 31) rfl))) (g := (mkF m 11 #[.val (.ref a), .val (.ref u), .val (.int p2), .val (.int p3), .val (.int (0 : Int32))] [(.int p2)])) rfl (hb hby d3_11) _ k) ?_
  show Win p.tables e below _ (T_24.setTop (mkF m 13 #[.val (.ref a), .val (.ref u), .val (.int p2), .val (.int p3), .val (.int (0 : Int32))] [(.int (2147483639 : Int32)), (.int p2)]))
  refine s_iload (pc' := 15) X_24.here hx (hb hby d3_13) rfl rfl ?_
  refine Win.go (fun _ k => XS.isub X_24.here hx rfl (hb hby d3_15) rfl k) ?_
  show Win p.tables e below _ (T_24.setTop (mkF m 16 #[.val (.ref a), .val (.ref u), .val (.int p2), .val (.int p3), .val (.int (0 : Int32))] [(.int (2147483639 : Int32)), (.int p2)]))
  by_cases hc16 : (2147483639 : Int) < (p2).toInt
  · skip
    exfalso
    exact own_m0 hp.2.1 hc16
  · skip
    refine s_icmpYes (pc' := 29) X_24.here hx (hb hby d3_16) (fltI (x := (2147483639 : Int32)) (y := p2) hc16).2.2.2 (by decide) (by decide) ?_
    refine s_iload (pc' := 31) X_24.here hx (hb hby d3_29) rfl rfl ?_
    refine s_iloadN (pc' := 32) X_24.here hx (hb hby d3_31) rfl rfl ?_
    refine s_iadd (pc' := 33) X_24.here hx (hb hby d3_32) rfl ?_
    refine s_aloadN (pc' := 34) X_24.here hx (hb hby d3_33) rfl rfl rfl ?_
    obtain ⟨T_25, X_25, e_25, st_25⟩ := getF X_24 hx hZ hown (host := "") (Or.inl (hw _ (List.mem_of_getElem? (i := 10) rfl))) Via.refl e_24 F_bytes_a (g := (mkF m 34 #[.val (.ref a), .val (.ref u), .val (.int p2), .val (.int p3), .val (.int (0 : Int32))] [(.ref a), (.int ((0 : Int32) + p2))])) rfl rfl (hb hby d3_34)
    refine Win.go st_25 ?_
    clear st_25 X_24 e_24
    show Win p.tables e below _ (T_25.setTop (mkF m 37 #[.val (.ref a), .val (.ref u), .val (.int p2), .val (.int p3), .val (.int (0 : Int32))] [(.ref bt), (.int ((0 : Int32) + p2))]))
    obtain ⟨k_26, vs_26, cl_26, Ar_26, q_26, S_26, N_26, H_26, G_26⟩ := id B_bt
    refine Win.go (fun _ k => X_25.arraylength hx (by rw [e_25]; exact Ar_26.1) (State.isArrayOf_alike hZ.alike Ar_26.2.1) (g := (mkF m 37 #[.val (.ref a), .val (.ref u), .val (.int p2), .val (.int p3), .val (.int (0 : Int32))] [(.ref bt), (.int ((0 : Int32) + p2))])) rfl rfl (hb hby d3_37) _ k) ?_
    rw [len_of S_26 N_26]
    clear Ar_26 q_26 S_26 N_26 H_26 G_26
    show Win p.tables e below _ (T_25.setTop (mkF m 38 #[.val (.ref a), .val (.ref u), .val (.int p2), .val (.int p3), .val (.int (0 : Int32))] [(.int z), (.int ((0 : Int32) + p2))]))
    by_cases hc38 : (z).toInt < (((0 : Int32) + p2)).toInt
    · skip
      refine s_icmpNo (pc' := 41) X_25.here hx (hb hby d3_38) rfl (tltI (x := z) (y := ((0 : Int32) + p2)) hc38).2.2.2 ?_
      refine s_aloadN (pc' := 42) X_25.here hx (hb hby d3_41) rfl rfl rfl ?_
      refine s_aloadN (pc' := 43) X_25.here hx (hb hby d3_42) rfl rfl rfl ?_
      obtain ⟨T_27, X_27, e_27, st_27⟩ := getF X_25 hx hZ hown (host := "") (Or.inl (hw _ (List.mem_of_getElem? (i := 10) rfl))) Via.refl e_25 F_bytes_a (g := (mkF m 43 #[.val (.ref a), .val (.ref u), .val (.int p2), .val (.int p3), .val (.int (0 : Int32))] [(.ref a), (.ref a)])) rfl rfl (hb hby d3_43)
      refine Win.go st_27 ?_
      clear st_27 X_25 e_25
      show Win p.tables e below _ (T_27.setTop (mkF m 46 #[.val (.ref a), .val (.ref u), .val (.int p2), .val (.int p3), .val (.int (0 : Int32))] [(.ref bt), (.ref a)]))
      refine s_aloadN (pc' := 47) X_27.here hx (hb hby d3_46) rfl rfl rfl ?_
      obtain ⟨T_28, X_28, e_28, st_28⟩ := getF X_27 hx hZ hown (host := "") (Or.inl (hw _ (List.mem_of_getElem? (i := 10) rfl))) Via.refl e_27 F_bytes_a (g := (mkF m 47 #[.val (.ref a), .val (.ref u), .val (.int p2), .val (.int p3), .val (.int (0 : Int32))] [(.ref a), (.ref bt), (.ref a)])) rfl rfl (hb hby d3_47)
      refine Win.go st_28 ?_
      clear st_28 X_27 e_27
      show Win p.tables e below _ (T_28.setTop (mkF m 50 #[.val (.ref a), .val (.ref u), .val (.int p2), .val (.int p3), .val (.int (0 : Int32))] [(.ref bt), (.ref bt), (.ref a)]))
      obtain ⟨k_29, vs_29, cl_29, Ar_29, q_29, S_29, N_29, H_29, G_29⟩ := id B_bt
      refine Win.go (fun _ k => X_28.arraylength hx (by rw [e_28]; exact Ar_29.1) (State.isArrayOf_alike hZ.alike Ar_29.2.1) (g := (mkF m 50 #[.val (.ref a), .val (.ref u), .val (.int p2), .val (.int p3), .val (.int (0 : Int32))] [(.ref bt), (.ref bt), (.ref a)])) rfl rfl (hb hby d3_50) _ k) ?_
      rw [len_of S_29 N_29]
      clear Ar_29 q_29 S_29 N_29 H_29 G_29
      show Win p.tables e below _ (T_28.setTop (mkF m 51 #[.val (.ref a), .val (.ref u), .val (.int p2), .val (.int p3), .val (.int (0 : Int32))] [(.int z), (.ref bt), (.ref a)]))
      refine s_iload (pc' := 53) X_28.here hx (hb hby d3_51) rfl rfl ?_
      refine s_iloadN (pc' := 54) X_28.here hx (hb hby d3_53) rfl rfl ?_
      refine s_iadd (pc' := 55) X_28.here hx (hb hby d3_54) rfl ?_
      obtain ⟨_, _, ⟨T_30, L_30, k_30, n_30⟩, -, X_30, ⟨Lc_30, hQ_30, l_30, y_30, z_30⟩, st_30⟩ := Jvm.LawKit.callS X_28 hx (y := (⟨"com/example/nearstable/nearstable/market/Market", "grownLength", "(II)I"⟩ : MethodName)) hown (mvT hZ (hw _ (List.mem_of_getElem? (i := 37) rfl))) (mvT hZ (hw _ (List.mem_of_getElem? (i := 38) rfl))) (mvT hZ (hw _ (List.mem_of_getElem? (i := 39) rfl))) (mvT hZ (hw _ (List.mem_of_getElem? (i := 40) rfl))) (by decide) (backOf (W := 2) (rm5 l Z a0 hw [] z ((0 : Int32) + p2) h0 n0 Zs (own_gp_0 hp hS hsp)) hZ (hw _ (List.mem_of_getElem? (i := 40) rfl)) (hw _ (List.mem_of_getElem? (i := 39) rfl)) (by decide) (by decide)) (g := (mkF m 55 #[.val (.ref a), .val (.ref u), .val (.int p2), .val (.int p3), .val (.int (0 : Int32))] [(.int ((0 : Int32) + p2)), (.int z), (.ref bt), (.ref a)])) rfl (by rw [hml]; rfl) (argsL := [(.int z), (.int ((0 : Int32) + p2))]) (rest := [(.ref bt), (.ref a)]) (lenOf pd_1 rfl) rfl (by show 2 * 0 + _ ≤ _; exact Nat.le_of_eq rfl) (hb hby d3_55) (fun _ _ => ⟨rfl, e_28, (by decide : 0 + 0 ≤ _), (by decide : 0 + 0 ≤ _)⟩)
      dsimp only [Pt.U, Pt.locs, Pt.cells, Pt.slots] at X_30 l_30 y_30 z_30 st_30 hQ_30
      subst l_30 y_30 z_30
      obtain ⟨Nq_30, e_30, gl, rfl, hgl⟩ := hQ_30
      replace Nf := Fr.app Nf Nq_30
      refine Win.go st_30 ?_
      clear st_30 Nq_30 X_28 e_28
      show Win p.tables e below _ (T_30.setTop (mkF m 58 #[.val (.ref a), .val (.ref u), .val (.int p2), .val (.int p3), .val (.int (0 : Int32))] [(.int gl), (.ref bt), (.ref a)]))
      obtain ⟨_, _, ⟨T_31, L_31, k_31, n_31⟩, -, X_31, ⟨Lc_31, hQ_31, l_31, y_31, z_31⟩, st_31⟩ := Jvm.LawKit.callS X_30 hx (y := (⟨"java/util/Arrays", "copyOf", "([BI)[B"⟩ : MethodName)) hown (mvT hZ (hw _ (List.mem_of_getElem? (i := 50) rfl))) (mvT hZ (hw _ (List.mem_of_getElem? (i := 51) rfl))) (mvT hZ (hw _ (List.mem_of_getElem? (i := 52) rfl))) (mvT hZ (hw _ (List.mem_of_getElem? (i := 53) rfl))) (by decide) (backOf (W := 1) (rm8 l Z a0 hw [] bt gl z h0 n0 Zs B_bt (own_nb_0 hp hS hsp hgl)) hZ (hw _ (List.mem_of_getElem? (i := 53) rfl)) (hw _ (List.mem_of_getElem? (i := 52) rfl)) (by decide) (by decide)) (g := (mkF m 58 #[.val (.ref a), .val (.ref u), .val (.int p2), .val (.int p3), .val (.int (0 : Int32))] [(.int gl), (.ref bt), (.ref a)])) rfl (by rw [hml]; rfl) (argsL := [(.ref bt), (.int gl)]) (rest := [(.ref a)]) (lenOf pd_3 rfl) rfl (by show 2 * 0 + _ ≤ _; exact Nat.le_of_eq rfl) (hb hby d3_58) (fun _ _ => ⟨rfl, e_30, (by decide : 0 + 1 ≤ _), (by decide : 0 + 128 ≤ _)⟩)
      dsimp only [Pt.U, Pt.locs, Pt.cells, Pt.slots] at X_31 l_31 y_31 z_31 st_31 hQ_31
      subst l_31 y_31 z_31
      obtain ⟨h_31, e_31⟩ : ∃ z, T_31.heap = z := ⟨_, rfl⟩
      rw [e_31] at hQ_31
      obtain ⟨Nq_31, K_31, nb, rfl, g_nb, so_31, n_31_B_nb⟩ := hQ_31
      replace Nf := Fr.app Nf Nq_31
      have ne_a_nb : a ≠ nb := Nat.ne_of_lt (Nat.lt_of_lt_of_le lt_a so_31)
      have ne_bt_nb : bt ≠ nb := Nat.ne_of_lt (Nat.lt_of_lt_of_le lt_bt so_31)
      have ne_en_nb : en ≠ nb := Nat.ne_of_lt (Nat.lt_of_lt_of_le lt_en so_31)
      have ne_li_nb : li ≠ nb := Nat.ne_of_lt (Nat.lt_of_lt_of_le lt_li so_31)
      have ne_u_nb : u ≠ nb := Nat.ne_of_lt (Nat.lt_of_lt_of_le lt_u so_31)
      have sz_nb : h0.size ≤ nb := Nat.le_trans Kp.1 so_31
      replace E_a := E_a.keep K_31
      replace F_bytes_a := F_bytes_a.keep K_31 nin0
      replace F_ends_a := F_ends_a.keep K_31 nin0
      replace F_lines_a := F_lines_a.keep K_31 nin0
      replace F_count_a := F_count_a.keep K_31 nin0
      replace B_bt := B_bt.keep K_31 nin0
      replace A_en := A_en.keep K_31 nin0
      replace A_li := A_li.keep K_31 nin0
      replace B_u := B_u.keep K_31 nin0
      replace lt_a := Nat.lt_of_lt_of_le lt_a K_31.1
      replace lt_bt := Nat.lt_of_lt_of_le lt_bt K_31.1
      replace lt_en := Nat.lt_of_lt_of_le lt_en K_31.1
      replace lt_li := Nat.lt_of_lt_of_le lt_li K_31.1
      replace lt_u := Nat.lt_of_lt_of_le lt_u K_31.1
      replace Zs := Nat.le_trans Zs K_31.1
      replace Kp := Kp.trans K_31 all0
      have B_nb := n_31_B_nb
      have lt_nb := B_nb.lt
      refine Win.go st_31 ?_
      clear st_31 Nq_31 X_30 e_30 K_31
      show Win p.tables e below _ (T_31.setTop (mkF m 61 #[.val (.ref a), .val (.ref u), .val (.int p2), .val (.int p3), .val (.int (0 : Int32))] [(.ref nb), (.ref a)]))
      obtain ⟨T_32, h_32, X_32, e_32, W_32, st_32⟩ := putF X_31 hx hZ hown (host := "") (Or.inl (hw _ (List.mem_of_getElem? (i := 10) rfl))) Via.refl e_31 F_bytes_a E_a (Or.inl (hw _ (List.mem_of_getElem? (i := 11) rfl))) (hw _ (List.mem_of_getElem? (i := 2) rfl)) (ty := (.array .byte)) (by decide) rfl rfl (g := (mkF m 61 #[.val (.ref a), .val (.ref u), .val (.int p2), .val (.int p3), .val (.int (0 : Int32))] [(.ref nb), (.ref a)])) rfl rfl (hb hby d3_61)
      replace E_a := E_a.wr W_32
      replace F_ends_a := F_ends_a.other W_32 (Or.inr (slot_ne (Or.inl (hw _ (List.mem_of_getElem? (i := 14) rfl))) (Or.inl (hw _ (List.mem_of_getElem? (i := 11) rfl))) (by decide) (t := (.array .int)) (t' := (.array .byte)) (by decide) (by decide)))
      replace F_lines_a := F_lines_a.other W_32 (Or.inr (slot_ne (Or.inl (hw _ (List.mem_of_getElem? (i := 16) rfl))) (Or.inl (hw _ (List.mem_of_getElem? (i := 11) rfl))) (by decide) (t := (.array .int)) (t' := (.array .byte)) (by decide) (by decide)))
      replace F_count_a := F_count_a.other W_32 (Or.inr (slot_ne (Or.inl (hw _ (List.mem_of_getElem? (i := 25) rfl))) (Or.inl (hw _ (List.mem_of_getElem? (i := 11) rfl))) (by decide) (t := .int) (t' := (.array .byte)) (by decide) (by decide)))
      replace B_bt := B_bt.other W_32 (Ne.symm ne_a_bt)
      replace A_en := A_en.other W_32 (Ne.symm ne_a_en)
      replace A_li := A_li.other W_32 (Ne.symm ne_a_li)
      replace B_u := B_u.other W_32 (Ne.symm ne_a_u)
      replace B_nb := B_nb.other W_32 (Ne.symm ne_a_nb)
      replace lt_a := Nat.lt_of_lt_of_le lt_a (Keep.of_wr W_32).1
      replace lt_bt := Nat.lt_of_lt_of_le lt_bt (Keep.of_wr W_32).1
      replace lt_en := Nat.lt_of_lt_of_le lt_en (Keep.of_wr W_32).1
      replace lt_li := Nat.lt_of_lt_of_le lt_li (Keep.of_wr W_32).1
      replace lt_u := Nat.lt_of_lt_of_le lt_u (Keep.of_wr W_32).1
      replace lt_nb := Nat.lt_of_lt_of_le lt_nb (Keep.of_wr W_32).1
      replace Zs := Nat.le_trans Zs (Keep.of_wr W_32).1
      replace Kp := Kp.wr W_32 (Or.inl (by simp))
      replace F_bytes_a := F_bytes_a.same W_32
      replace Nf := Fr.snoc X_32 Nf g_a
      refine Win.go st_32 ?_
      clear st_32 W_32 X_31 e_31
      show Win p.tables e below _ (T_32.setTop (mkF m 64 #[.val (.ref a), .val (.ref u), .val (.int p2), .val (.int p3), .val (.int (0 : Int32))] []))
      refine s_aloadN (pc' := 65) X_32.here hx (hb hby d3_64) rfl rfl rfl ?_
      obtain ⟨T_33, X_33, e_33, st_33⟩ := getF X_32 hx hZ hown (host := "") (Or.inl (hw _ (List.mem_of_getElem? (i := 24) rfl))) Via.refl e_32 F_count_a (g := (mkF m 65 #[.val (.ref a), .val (.ref u), .val (.int p2), .val (.int p3), .val (.int (0 : Int32))] [(.ref a)])) rfl rfl (hb hby d3_65)
      refine Win.go st_33 ?_
      clear st_33 X_32 e_32
      show Win p.tables e below _ (T_33.setTop (mkF m 68 #[.val (.ref a), .val (.ref u), .val (.int p2), .val (.int p3), .val (.int (0 : Int32))] [(.int (0 : Int32))]))
      refine s_aloadN (pc' := 69) X_33.here hx (hb hby d3_68) rfl rfl rfl ?_
      obtain ⟨T_34, X_34, e_34, st_34⟩ := getF X_33 hx hZ hown (host := "") (Or.inl (hw _ (List.mem_of_getElem? (i := 13) rfl))) Via.refl e_33 F_ends_a (g := (mkF m 69 #[.val (.ref a), .val (.ref u), .val (.int p2), .val (.int p3), .val (.int (0 : Int32))] [(.ref a), (.int (0 : Int32))])) rfl rfl (hb hby d3_69)
      refine Win.go st_34 ?_
      clear st_34 X_33 e_33
      show Win p.tables e below _ (T_34.setTop (mkF m 72 #[.val (.ref a), .val (.ref u), .val (.int p2), .val (.int p3), .val (.int (0 : Int32))] [(.ref en), (.int (0 : Int32))]))
      obtain ⟨cl_35, Ar_35, S_35, G_35⟩ := id A_en
      refine Win.go (fun _ k => X_34.arraylength hx (by rw [e_34]; exact Ar_35.1) (State.isArrayOf_alike hZ.alike Ar_35.2.1) (g := (mkF m 72 #[.val (.ref a), .val (.ref u), .val (.int p2), .val (.int p3), .val (.int (0 : Int32))] [(.ref en), (.int (0 : Int32))])) rfl rfl (hb hby d3_72) _ k) ?_
      rw [S_35]
      clear Ar_35 S_35 G_35
      show Win p.tables e below _ (T_34.setTop (mkF m 73 #[.val (.ref a), .val (.ref u), .val (.int p2), .val (.int p3), .val (.int (0 : Int32))] [(.int (16 : Int32)), (.int (0 : Int32))]))
      refine s_icmpYes (pc' := 116) X_34.here hx (hb hby d3_73) (feqI (x := (0 : Int32)) (y := (16 : Int32)) (by decide)).2 (by decide) (by decide) ?_
      refine s_aloadN (pc' := 117) X_34.here hx (hb hby d3_116) rfl rfl rfl ?_
      refine s_iconst (pc' := 118) (z := (0 : Int32)) X_34.here hx (hb hby d3_117) rfl rfl ?_
      refine s_aloadN (pc' := 119) X_34.here hx (hb hby d3_118) rfl rfl rfl ?_
      obtain ⟨T_36, X_36, e_36, st_36⟩ := getF X_34 hx hZ hown (host := "") (Or.inl (hw _ (List.mem_of_getElem? (i := 10) rfl))) Via.refl e_34 F_bytes_a (g := (mkF m 119 #[.val (.ref a), .val (.ref u), .val (.int p2), .val (.int p3), .val (.int (0 : Int32))] [(.ref a), (.int (0 : Int32)), (.ref u)])) rfl rfl (hb hby d3_119)
      refine Win.go st_36 ?_
      clear st_36 X_34 e_34
      show Win p.tables e below _ (T_36.setTop (mkF m 122 #[.val (.ref a), .val (.ref u), .val (.int p2), .val (.int p3), .val (.int (0 : Int32))] [(.ref nb), (.int (0 : Int32)), (.ref u)]))
      refine s_iload (pc' := 124) X_36.here hx (hb hby d3_122) rfl rfl ?_
      refine s_iloadN (pc' := 125) X_36.here hx (hb hby d3_124) rfl rfl ?_
      obtain ⟨T_37, h_37, L_37, X_37, e_37, Nf', K_37, B_37, st_37⟩ := cpBA X_36 hx hZ hown (hw _ (List.mem_of_getElem? (i := 32) rfl)) (hw _ (List.mem_of_getElem? (i := 35) rfl)) (hw _ (List.mem_of_getElem? (i := 33) rfl)) (hw _ (List.mem_of_getElem? (i := 34) rfl)) e_36 B_u B_nb (by decide) (by exact hS.1) (by exact hp.1) (by exact own_c4 hp.2.1) (by first | exact Int.le_trans (Int.le_of_eq hsp.symm) hgl.2.1 | exact Int.le_trans (Int.le_of_eq hsp.symm) (Int.not_lt.mp hc38)) Nf g_nb (g := (mkF m 125 #[.val (.ref a), .val (.ref u), .val (.int p2), .val (.int p3), .val (.int (0 : Int32))] [(.int p2), (.int (0 : Int32)), (.ref nb), (.int (0 : Int32)), (.ref u)])) rfl (by rw [hml]; rfl) rfl (hb hby d3_125) (by decide) (W := 0) (by show 2 * 0 + _ ≤ _; exact Nat.le_of_eq rfl) (by decide)
      replace E_a := E_a.keep K_37
      replace F_bytes_a := F_bytes_a.keep K_37 (ninS ne_a_nb nin0)
      replace F_ends_a := F_ends_a.keep K_37 (ninS ne_a_nb nin0)
      replace F_lines_a := F_lines_a.keep K_37 (ninS ne_a_nb nin0)
      replace F_count_a := F_count_a.keep K_37 (ninS ne_a_nb nin0)
      replace B_bt := B_bt.keep K_37 (ninS ne_bt_nb nin0)
      replace A_en := A_en.keep K_37 (ninS ne_en_nb nin0)
      replace A_li := A_li.keep K_37 (ninS ne_li_nb nin0)
      replace B_u := B_u.keep K_37 (ninS ne_u_nb nin0)
      replace lt_a := Nat.lt_of_lt_of_le lt_a K_37.1
      replace lt_bt := Nat.lt_of_lt_of_le lt_bt K_37.1
      replace lt_en := Nat.lt_of_lt_of_le lt_en K_37.1
      replace lt_li := Nat.lt_of_lt_of_le lt_li K_37.1
      replace lt_u := Nat.lt_of_lt_of_le lt_u K_37.1
      replace lt_nb := Nat.lt_of_lt_of_le lt_nb K_37.1
      replace Zs := Nat.le_trans Zs K_37.1
      replace Kp := Kp.trans K_37 (allS (Or.inr sz_nb) all0)
      replace B_nb := B_37
      replace Nf := Nf'
      refine Win.go st_37 ?_
      show Win p.tables e below _ (T_37.setTop (mkF m 128 #[.val (.ref a), .val (.ref u), .val (.int p2), .val (.int p3), .val (.int (0 : Int32))] []))
      refine s_aloadN (pc' := 129) X_37.here hx (hb hby d3_128) rfl rfl rfl ?_
      obtain ⟨T_38, X_38, e_38, st_38⟩ := getF X_37 hx hZ hown (host := "") (Or.inl (hw _ (List.mem_of_getElem? (i := 13) rfl))) Via.refl e_37 F_ends_a (g := (mkF m 129 #[.val (.ref a), .val (.ref u), .val (.int p2), .val (.int p3), .val (.int (0 : Int32))] [(.ref a)])) rfl rfl (hb hby d3_129)
      refine Win.go st_38 ?_
      clear st_38 X_37 e_37
      show Win p.tables e below _ (T_38.setTop (mkF m 132 #[.val (.ref a), .val (.ref u), .val (.int p2), .val (.int p3), .val (.int (0 : Int32))] [(.ref en)]))
      refine s_aloadN (pc' := 133) X_38.here hx (hb hby d3_132) rfl rfl rfl ?_
      obtain ⟨T_39, X_39, e_39, st_39⟩ := getF X_38 hx hZ hown (host := "") (Or.inl (hw _ (List.mem_of_getElem? (i := 24) rfl))) Via.refl e_38 F_count_a (g := (mkF m 133 #[.val (.ref a), .val (.ref u), .val (.int p2), .val (.int p3), .val (.int (0 : Int32))] [(.ref a), (.ref en)])) rfl rfl (hb hby d3_133)
      refine Win.go st_39 ?_
      clear st_39 X_38 e_38
      show Win p.tables e below _ (T_39.setTop (mkF m 136 #[.val (.ref a), .val (.ref u), .val (.int p2), .val (.int p3), .val (.int (0 : Int32))] [(.int (0 : Int32)), (.ref en)]))
      refine s_iload (pc' := 138) X_39.here hx (hb hby d3_136) rfl rfl ?_
      refine s_iloadN (pc' := 139) X_39.here hx (hb hby d3_138) rfl rfl ?_
      refine s_iadd (pc' := 140) X_39.here hx (hb hby d3_139) rfl ?_
      obtain ⟨cl_40, Ar_40, S_40, G_40⟩ := id A_en
      have hb_40 : 0 ≤ ((0 : Int32)).toInt ∧ ((0 : Int32)).toInt < 16 := by decide
      obtain ⟨T_40, h_40, X_40, e_40, W_40, st_40⟩ := stI X_39 hx hZ e_39 Ar_40 (j := (0 : Int32)) (AF.inb S_40 hb_40) (g := (mkF m 140 #[.val (.ref a), .val (.ref u), .val (.int p2), .val (.int p3), .val (.int (0 : Int32))] [(.int ((0 : Int32) + p2)), (.int (0 : Int32)), (.ref en)])) rfl rfl (hb hby d3_140)
      have A_40 : AF Z h_40 en .int 16 (updF ef (0 : Int) ((0 : Int32) + p2)) := AF.set Ar_40 S_40 G_40 W_40 hb_40
      replace E_a := E_a.wr W_40
      replace F_bytes_a := F_bytes_a.other W_40 (Or.inl ne_a_en)
      replace F_ends_a := F_ends_a.other W_40 (Or.inl ne_a_en)
      replace F_lines_a := F_lines_a.other W_40 (Or.inl ne_a_en)
      replace F_count_a := F_count_a.other W_40 (Or.inl ne_a_en)
      replace B_bt := B_bt.other W_40 ne_bt_en
      replace A_li := A_li.other W_40 (Ne.symm ne_en_li)
      replace B_u := B_u.other W_40 (Ne.symm ne_en_u)
      replace B_nb := B_nb.other W_40 (Ne.symm ne_en_nb)
      replace lt_a := Nat.lt_of_lt_of_le lt_a (Keep.of_wr W_40).1
      replace lt_bt := Nat.lt_of_lt_of_le lt_bt (Keep.of_wr W_40).1
      replace lt_en := Nat.lt_of_lt_of_le lt_en (Keep.of_wr W_40).1
      replace lt_li := Nat.lt_of_lt_of_le lt_li (Keep.of_wr W_40).1
      replace lt_u := Nat.lt_of_lt_of_le lt_u (Keep.of_wr W_40).1
      replace lt_nb := Nat.lt_of_lt_of_le lt_nb (Keep.of_wr W_40).1
      replace Zs := Nat.le_trans Zs (Keep.of_wr W_40).1
      replace Kp := Kp.wr W_40 (Or.inl (by simp))
      replace A_en := A_40
      replace Nf := Fr.snoc X_40 Nf g_en
      refine Win.go st_40 ?_
      clear st_40 W_40 A_40 Ar_40 S_40 G_40 hb_40 X_39 e_39
      show Win p.tables e below _ (T_40.setTop (mkF m 141 #[.val (.ref a), .val (.ref u), .val (.int p2), .val (.int p3), .val (.int (0 : Int32))] []))
      refine s_aloadN (pc' := 142) X_40.here hx (hb hby d3_141) rfl rfl rfl ?_
      obtain ⟨T_41, X_41, e_41, st_41⟩ := getF X_40 hx hZ hown (host := "") (Or.inl (hw _ (List.mem_of_getElem? (i := 15) rfl))) Via.refl e_40 F_lines_a (g := (mkF m 142 #[.val (.ref a), .val (.ref u), .val (.int p2), .val (.int p3), .val (.int (0 : Int32))] [(.ref a)])) rfl rfl (hb hby d3_142)
      refine Win.go st_41 ?_
      clear st_41 X_40 e_40
      show Win p.tables e below _ (T_41.setTop (mkF m 145 #[.val (.ref a), .val (.ref u), .val (.int p2), .val (.int p3), .val (.int (0 : Int32))] [(.ref li)]))
      refine s_aloadN (pc' := 146) X_41.here hx (hb hby d3_145) rfl rfl rfl ?_
      refine s_dup (pc' := 147) X_41.here hx (hb hby d3_146) rfl rfl ?_
      obtain ⟨T_42, X_42, e_42, st_42⟩ := getF X_41 hx hZ hown (host := "") (Or.inl (hw _ (List.mem_of_getElem? (i := 24) rfl))) Via.refl e_41 F_count_a (g := (mkF m 147 #[.val (.ref a), .val (.ref u), .val (.int p2), .val (.int p3), .val (.int (0 : Int32))] [(.ref a), (.ref a), (.ref li)])) rfl rfl (hb hby d3_147)
      refine Win.go st_42 ?_
      clear st_42 X_41 e_41
      show Win p.tables e below _ (T_42.setTop (mkF m 150 #[.val (.ref a), .val (.ref u), .val (.int p2), .val (.int p3), .val (.int (0 : Int32))] [(.int (0 : Int32)), (.ref a), (.ref li)]))
      refine Win.go (fun _ k => XS.dupX1 X_42.here hx rfl (hb hby d3_150) rfl rfl rfl k) ?_
      show Win p.tables e below _ (T_42.setTop (mkF m 151 #[.val (.ref a), .val (.ref u), .val (.int p2), .val (.int p3), .val (.int (0 : Int32))] [(.int (0 : Int32)), (.ref a), (.int (0 : Int32)), (.ref li)]))
      refine s_iconst (pc' := 152) (z := (1 : Int32)) X_42.here hx (hb hby d3_151) rfl rfl ?_
      refine Win.go (fun _ k => XS.iadd X_42.here hx rfl (hb hby d3_152) rfl k) ?_
      show Win p.tables e below _ (T_42.setTop (mkF m 153 #[.val (.ref a), .val (.ref u), .val (.int p2), .val (.int p3), .val (.int (0 : Int32))] [(.int (1 : Int32)), (.ref a), (.int (0 : Int32)), (.ref li)]))
      obtain ⟨T_43, h_43, X_43, e_43, W_43, st_43⟩ := putF X_42 hx hZ hown (host := "") (Or.inl (hw _ (List.mem_of_getElem? (i := 24) rfl))) Via.refl e_42 F_count_a E_a (Or.inl (hw _ (List.mem_of_getElem? (i := 25) rfl))) (hw _ (List.mem_of_getElem? (i := 2) rfl)) (ty := .int) (by decide) rfl rfl (g := (mkF m 153 #[.val (.ref a), .val (.ref u), .val (.int p2), .val (.int p3), .val (.int (0 : Int32))] [(.int (1 : Int32)), (.ref a), (.int (0 : Int32)), (.ref li)])) rfl rfl (hb hby d3_153)
      replace E_a := E_a.wr W_43
      replace F_bytes_a := F_bytes_a.other W_43 (Or.inr (slot_ne (Or.inl (hw _ (List.mem_of_getElem? (i := 11) rfl))) (Or.inl (hw _ (List.mem_of_getElem? (i := 25) rfl))) (by decide) (t := (.array .byte)) (t' := .int) (by decide) (by decide)))
      replace F_ends_a := F_ends_a.other W_43 (Or.inr (slot_ne (Or.inl (hw _ (List.mem_of_getElem? (i := 14) rfl))) (Or.inl (hw _ (List.mem_of_getElem? (i := 25) rfl))) (by decide) (t := (.array .int)) (t' := .int) (by decide) (by decide)))
      replace F_lines_a := F_lines_a.other W_43 (Or.inr (slot_ne (Or.inl (hw _ (List.mem_of_getElem? (i := 16) rfl))) (Or.inl (hw _ (List.mem_of_getElem? (i := 25) rfl))) (by decide) (t := (.array .int)) (t' := .int) (by decide) (by decide)))
      replace B_bt := B_bt.other W_43 (Ne.symm ne_a_bt)
      replace A_li := A_li.other W_43 (Ne.symm ne_a_li)
      replace B_u := B_u.other W_43 (Ne.symm ne_a_u)
      replace B_nb := B_nb.other W_43 (Ne.symm ne_a_nb)
      replace A_en := A_en.other W_43 (Ne.symm ne_a_en)
      replace lt_a := Nat.lt_of_lt_of_le lt_a (Keep.of_wr W_43).1
      replace lt_bt := Nat.lt_of_lt_of_le lt_bt (Keep.of_wr W_43).1
      replace lt_en := Nat.lt_of_lt_of_le lt_en (Keep.of_wr W_43).1
      replace lt_li := Nat.lt_of_lt_of_le lt_li (Keep.of_wr W_43).1
      replace lt_u := Nat.lt_of_lt_of_le lt_u (Keep.of_wr W_43).1
      replace lt_nb := Nat.lt_of_lt_of_le lt_nb (Keep.of_wr W_43).1
      replace Zs := Nat.le_trans Zs (Keep.of_wr W_43).1
      replace Kp := Kp.wr W_43 (Or.inl (by simp))
      replace F_count_a := F_count_a.same W_43
      replace Nf := Fr.snoc X_43 Nf g_a
      refine Win.go st_43 ?_
      clear st_43 W_43 X_42 e_42
      show Win p.tables e below _ (T_43.setTop (mkF m 156 #[.val (.ref a), .val (.ref u), .val (.int p2), .val (.int p3), .val (.int (0 : Int32))] [(.int (0 : Int32)), (.ref li)]))
      refine s_iloadN (pc' := 157) X_43.here hx (hb hby d3_156) rfl rfl ?_
      obtain ⟨cl_44, Ar_44, S_44, G_44⟩ := id A_li
      have hb_44 : 0 ≤ ((0 : Int32)).toInt ∧ ((0 : Int32)).toInt < 16 := by decide
      obtain ⟨T_44, h_44, X_44, e_44, W_44, st_44⟩ := stI X_43 hx hZ e_43 Ar_44 (j := (0 : Int32)) (AF.inb S_44 hb_44) (g := (mkF m 157 #[.val (.ref a), .val (.ref u), .val (.int p2), .val (.int p3), .val (.int (0 : Int32))] [(.int p3), (.int (0 : Int32)), (.ref li)])) rfl rfl (hb hby d3_157)
      have A_44 : AF Z h_44 li .int 16 (updF lf (0 : Int) p3) := AF.set Ar_44 S_44 G_44 W_44 hb_44
      replace E_a := E_a.wr W_44
      replace F_bytes_a := F_bytes_a.other W_44 (Or.inl ne_a_li)
      replace F_ends_a := F_ends_a.other W_44 (Or.inl ne_a_li)
      replace F_lines_a := F_lines_a.other W_44 (Or.inl ne_a_li)
      replace F_count_a := F_count_a.other W_44 (Or.inl ne_a_li)
      replace B_bt := B_bt.other W_44 ne_bt_li
      replace B_u := B_u.other W_44 (Ne.symm ne_li_u)
      replace B_nb := B_nb.other W_44 (Ne.symm ne_li_nb)
      replace A_en := A_en.other W_44 ne_en_li
      replace lt_a := Nat.lt_of_lt_of_le lt_a (Keep.of_wr W_44).1
      replace lt_bt := Nat.lt_of_lt_of_le lt_bt (Keep.of_wr W_44).1
      replace lt_en := Nat.lt_of_lt_of_le lt_en (Keep.of_wr W_44).1
      replace lt_li := Nat.lt_of_lt_of_le lt_li (Keep.of_wr W_44).1
      replace lt_u := Nat.lt_of_lt_of_le lt_u (Keep.of_wr W_44).1
      replace lt_nb := Nat.lt_of_lt_of_le lt_nb (Keep.of_wr W_44).1
      replace Zs := Nat.le_trans Zs (Keep.of_wr W_44).1
      replace Kp := Kp.wr W_44 (Or.inl (by simp))
      replace A_li := A_44
      replace Nf := Fr.snoc X_44 Nf g_li
      refine Win.go st_44 ?_
      clear st_44 W_44 A_44 Ar_44 S_44 G_44 hb_44 X_43 e_43
      show Win p.tables e below _ (T_44.setTop (mkF m 158 #[.val (.ref a), .val (.ref u), .val (.int p2), .val (.int p3), .val (.int (0 : Int32))] []))
      refine winV X_44 hx hlk e_44 Bd.returns (hb hby d3_158) (by decide) (by decide) ?_
      exact ⟨Nf, Kp, ⟨nb, gl, g_nb, (Ne.symm ne_en_nb), (Ne.symm ne_li_nb), (Ne.symm ne_a_nb), (Ne.symm ne_u_nb), own_lf_0 hp hS hsp hgl, F_bytes_a, F_ends_a, F_lines_a, F_count_a, B_nb, A_en, A_li⟩, rfl⟩
    · skip
      refine s_icmpYes (pc' := 64) X_25.here hx (hb hby d3_38) (fltI (x := z) (y := ((0 : Int32) + p2)) hc38).2.2.2 (by decide) (by decide) ?_
      refine s_aloadN (pc' := 65) X_25.here hx (hb hby d3_64) rfl rfl rfl ?_
      obtain ⟨T_45, X_45, e_45, st_45⟩ := getF X_25 hx hZ hown (host := "") (Or.inl (hw _ (List.mem_of_getElem? (i := 24) rfl))) Via.refl e_25 F_count_a (g := (mkF m 65 #[.val (.ref a), .val (.ref u), .val (.int p2), .val (.int p3), .val (.int (0 : Int32))] [(.ref a)])) rfl rfl (hb hby d3_65)
      refine Win.go st_45 ?_
      clear st_45 X_25 e_25
      show Win p.tables e below _ (T_45.setTop (mkF m 68 #[.val (.ref a), .val (.ref u), .val (.int p2), .val (.int p3), .val (.int (0 : Int32))] [(.int (0 : Int32))]))
      refine s_aloadN (pc' := 69) X_45.here hx (hb hby d3_68) rfl rfl rfl ?_
      obtain ⟨T_46, X_46, e_46, st_46⟩ := getF X_45 hx hZ hown (host := "") (Or.inl (hw _ (List.mem_of_getElem? (i := 13) rfl))) Via.refl e_45 F_ends_a (g := (mkF m 69 #[.val (.ref a), .val (.ref u), .val (.int p2), .val (.int p3), .val (.int (0 : Int32))] [(.ref a), (.int (0 : Int32))])) rfl rfl (hb hby d3_69)
      refine Win.go st_46 ?_
      clear st_46 X_45 e_45
      show Win p.tables e below _ (T_46.setTop (mkF m 72 #[.val (.ref a), .val (.ref u), .val (.int p2), .val (.int p3), .val (.int (0 : Int32))] [(.ref en), (.int (0 : Int32))]))
      obtain ⟨cl_47, Ar_47, S_47, G_47⟩ := id A_en
      refine Win.go (fun _ k => X_46.arraylength hx (by rw [e_46]; exact Ar_47.1) (State.isArrayOf_alike hZ.alike Ar_47.2.1) (g := (mkF m 72 #[.val (.ref a), .val (.ref u), .val (.int p2), .val (.int p3), .val (.int (0 : Int32))] [(.ref en), (.int (0 : Int32))])) rfl rfl (hb hby d3_72) _ k) ?_
      rw [S_47]
      clear Ar_47 S_47 G_47
      show Win p.tables e below _ (T_46.setTop (mkF m 73 #[.val (.ref a), .val (.ref u), .val (.int p2), .val (.int p3), .val (.int (0 : Int32))] [(.int (16 : Int32)), (.int (0 : Int32))]))
      refine s_icmpYes (pc' := 116) X_46.here hx (hb hby d3_73) (feqI (x := (0 : Int32)) (y := (16 : Int32)) (by decide)).2 (by decide) (by decide) ?_
      refine s_aloadN (pc' := 117) X_46.here hx (hb hby d3_116) rfl rfl rfl ?_
      refine s_iconst (pc' := 118) (z := (0 : Int32)) X_46.here hx (hb hby d3_117) rfl rfl ?_
      refine s_aloadN (pc' := 119) X_46.here hx (hb hby d3_118) rfl rfl rfl ?_
      obtain ⟨T_48, X_48, e_48, st_48⟩ := getF X_46 hx hZ hown (host := "") (Or.inl (hw _ (List.mem_of_getElem? (i := 10) rfl))) Via.refl e_46 F_bytes_a (g := (mkF m 119 #[.val (.ref a), .val (.ref u), .val (.int p2), .val (.int p3), .val (.int (0 : Int32))] [(.ref a), (.int (0 : Int32)), (.ref u)])) rfl rfl (hb hby d3_119)
      refine Win.go st_48 ?_
      clear st_48 X_46 e_46
      show Win p.tables e below _ (T_48.setTop (mkF m 122 #[.val (.ref a), .val (.ref u), .val (.int p2), .val (.int p3), .val (.int (0 : Int32))] [(.ref bt), (.int (0 : Int32)), (.ref u)]))
      refine s_iload (pc' := 124) X_48.here hx (hb hby d3_122) rfl rfl ?_
      refine s_iloadN (pc' := 125) X_48.here hx (hb hby d3_124) rfl rfl ?_
      obtain ⟨T_49, h_49, L_49, X_49, e_49, Nf', K_49, B_49, st_49⟩ := cpBA X_48 hx hZ hown (hw _ (List.mem_of_getElem? (i := 32) rfl)) (hw _ (List.mem_of_getElem? (i := 35) rfl)) (hw _ (List.mem_of_getElem? (i := 33) rfl)) (hw _ (List.mem_of_getElem? (i := 34) rfl)) e_48 B_u B_bt (by decide) (by exact hS.1) (by exact hp.1) (by exact own_c4 hp.2.1) (by first | exact Int.le_trans (Int.le_of_eq hsp.symm) hgl.2.1 | exact Int.le_trans (Int.le_of_eq hsp.symm) (Int.not_lt.mp hc38)) Nf g_bt (g := (mkF m 125 #[.val (.ref a), .val (.ref u), .val (.int p2), .val (.int p3), .val (.int (0 : Int32))] [(.int p2), (.int (0 : Int32)), (.ref bt), (.int (0 : Int32)), (.ref u)])) rfl (by rw [hml]; rfl) rfl (hb hby d3_125) (by decide) (W := 0) (by show 2 * 0 + _ ≤ _; exact Nat.le_of_eq rfl) (by decide)
      replace E_a := E_a.keep K_49
      replace F_bytes_a := F_bytes_a.keep K_49 (ninS ne_a_bt nin0)
      replace F_ends_a := F_ends_a.keep K_49 (ninS ne_a_bt nin0)
      replace F_lines_a := F_lines_a.keep K_49 (ninS ne_a_bt nin0)
      replace F_count_a := F_count_a.keep K_49 (ninS ne_a_bt nin0)
      replace A_en := A_en.keep K_49 (ninS (Ne.symm ne_bt_en) nin0)
      replace A_li := A_li.keep K_49 (ninS (Ne.symm ne_bt_li) nin0)
      replace B_u := B_u.keep K_49 (ninS (Ne.symm ne_bt_u) nin0)
      replace lt_a := Nat.lt_of_lt_of_le lt_a K_49.1
      replace lt_bt := Nat.lt_of_lt_of_le lt_bt K_49.1
      replace lt_en := Nat.lt_of_lt_of_le lt_en K_49.1
      replace lt_li := Nat.lt_of_lt_of_le lt_li K_49.1
      replace lt_u := Nat.lt_of_lt_of_le lt_u K_49.1
      replace Zs := Nat.le_trans Zs K_49.1
      replace Kp := Kp.trans K_49 (allS (Or.inl (by simp)) all0)
      replace B_bt := B_49
      replace Nf := Nf'
      refine Win.go st_49 ?_
      show Win p.tables e below _ (T_49.setTop (mkF m 128 #[.val (.ref a), .val (.ref u), .val (.int p2), .val (.int p3), .val (.int (0 : Int32))] []))
      refine s_aloadN (pc' := 129) X_49.here hx (hb hby d3_128) rfl rfl rfl ?_
      obtain ⟨T_50, X_50, e_50, st_50⟩ := getF X_49 hx hZ hown (host := "") (Or.inl (hw _ (List.mem_of_getElem? (i := 13) rfl))) Via.refl e_49 F_ends_a (g := (mkF m 129 #[.val (.ref a), .val (.ref u), .val (.int p2), .val (.int p3), .val (.int (0 : Int32))] [(.ref a)])) rfl rfl (hb hby d3_129)
      refine Win.go st_50 ?_
      clear st_50 X_49 e_49
      show Win p.tables e below _ (T_50.setTop (mkF m 132 #[.val (.ref a), .val (.ref u), .val (.int p2), .val (.int p3), .val (.int (0 : Int32))] [(.ref en)]))
      refine s_aloadN (pc' := 133) X_50.here hx (hb hby d3_132) rfl rfl rfl ?_
      obtain ⟨T_51, X_51, e_51, st_51⟩ := getF X_50 hx hZ hown (host := "") (Or.inl (hw _ (List.mem_of_getElem? (i := 24) rfl))) Via.refl e_50 F_count_a (g := (mkF m 133 #[.val (.ref a), .val (.ref u), .val (.int p2), .val (.int p3), .val (.int (0 : Int32))] [(.ref a), (.ref en)])) rfl rfl (hb hby d3_133)
      refine Win.go st_51 ?_
      clear st_51 X_50 e_50
      show Win p.tables e below _ (T_51.setTop (mkF m 136 #[.val (.ref a), .val (.ref u), .val (.int p2), .val (.int p3), .val (.int (0 : Int32))] [(.int (0 : Int32)), (.ref en)]))
      refine s_iload (pc' := 138) X_51.here hx (hb hby d3_136) rfl rfl ?_
      refine s_iloadN (pc' := 139) X_51.here hx (hb hby d3_138) rfl rfl ?_
      refine s_iadd (pc' := 140) X_51.here hx (hb hby d3_139) rfl ?_
      obtain ⟨cl_52, Ar_52, S_52, G_52⟩ := id A_en
      have hb_52 : 0 ≤ ((0 : Int32)).toInt ∧ ((0 : Int32)).toInt < 16 := by decide
      obtain ⟨T_52, h_52, X_52, e_52, W_52, st_52⟩ := stI X_51 hx hZ e_51 Ar_52 (j := (0 : Int32)) (AF.inb S_52 hb_52) (g := (mkF m 140 #[.val (.ref a), .val (.ref u), .val (.int p2), .val (.int p3), .val (.int (0 : Int32))] [(.int ((0 : Int32) + p2)), (.int (0 : Int32)), (.ref en)])) rfl rfl (hb hby d3_140)
      have A_52 : AF Z h_52 en .int 16 (updF ef (0 : Int) ((0 : Int32) + p2)) := AF.set Ar_52 S_52 G_52 W_52 hb_52
      replace E_a := E_a.wr W_52
      replace F_bytes_a := F_bytes_a.other W_52 (Or.inl ne_a_en)
      replace F_ends_a := F_ends_a.other W_52 (Or.inl ne_a_en)
      replace F_lines_a := F_lines_a.other W_52 (Or.inl ne_a_en)
      replace F_count_a := F_count_a.other W_52 (Or.inl ne_a_en)
      replace A_li := A_li.other W_52 (Ne.symm ne_en_li)
      replace B_u := B_u.other W_52 (Ne.symm ne_en_u)
      replace B_bt := B_bt.other W_52 ne_bt_en
      replace lt_a := Nat.lt_of_lt_of_le lt_a (Keep.of_wr W_52).1
      replace lt_bt := Nat.lt_of_lt_of_le lt_bt (Keep.of_wr W_52).1
      replace lt_en := Nat.lt_of_lt_of_le lt_en (Keep.of_wr W_52).1
      replace lt_li := Nat.lt_of_lt_of_le lt_li (Keep.of_wr W_52).1
      replace lt_u := Nat.lt_of_lt_of_le lt_u (Keep.of_wr W_52).1
      replace Zs := Nat.le_trans Zs (Keep.of_wr W_52).1
      replace Kp := Kp.wr W_52 (Or.inl (by simp))
      replace A_en := A_52
      replace Nf := Fr.snoc X_52 Nf g_en
      refine Win.go st_52 ?_
      clear st_52 W_52 A_52 Ar_52 S_52 G_52 hb_52 X_51 e_51
      show Win p.tables e below _ (T_52.setTop (mkF m 141 #[.val (.ref a), .val (.ref u), .val (.int p2), .val (.int p3), .val (.int (0 : Int32))] []))
      refine s_aloadN (pc' := 142) X_52.here hx (hb hby d3_141) rfl rfl rfl ?_
      obtain ⟨T_53, X_53, e_53, st_53⟩ := getF X_52 hx hZ hown (host := "") (Or.inl (hw _ (List.mem_of_getElem? (i := 15) rfl))) Via.refl e_52 F_lines_a (g := (mkF m 142 #[.val (.ref a), .val (.ref u), .val (.int p2), .val (.int p3), .val (.int (0 : Int32))] [(.ref a)])) rfl rfl (hb hby d3_142)
      refine Win.go st_53 ?_
      clear st_53 X_52 e_52
      show Win p.tables e below _ (T_53.setTop (mkF m 145 #[.val (.ref a), .val (.ref u), .val (.int p2), .val (.int p3), .val (.int (0 : Int32))] [(.ref li)]))
      refine s_aloadN (pc' := 146) X_53.here hx (hb hby d3_145) rfl rfl rfl ?_
      refine s_dup (pc' := 147) X_53.here hx (hb hby d3_146) rfl rfl ?_
      obtain ⟨T_54, X_54, e_54, st_54⟩ := getF X_53 hx hZ hown (host := "") (Or.inl (hw _ (List.mem_of_getElem? (i := 24) rfl))) Via.refl e_53 F_count_a (g := (mkF m 147 #[.val (.ref a), .val (.ref u), .val (.int p2), .val (.int p3), .val (.int (0 : Int32))] [(.ref a), (.ref a), (.ref li)])) rfl rfl (hb hby d3_147)
      refine Win.go st_54 ?_
      clear st_54 X_53 e_53
      show Win p.tables e below _ (T_54.setTop (mkF m 150 #[.val (.ref a), .val (.ref u), .val (.int p2), .val (.int p3), .val (.int (0 : Int32))] [(.int (0 : Int32)), (.ref a), (.ref li)]))
      refine Win.go (fun _ k => XS.dupX1 X_54.here hx rfl (hb hby d3_150) rfl rfl rfl k) ?_
      show Win p.tables e below _ (T_54.setTop (mkF m 151 #[.val (.ref a), .val (.ref u), .val (.int p2), .val (.int p3), .val (.int (0 : Int32))] [(.int (0 : Int32)), (.ref a), (.int (0 : Int32)), (.ref li)]))
      refine s_iconst (pc' := 152) (z := (1 : Int32)) X_54.here hx (hb hby d3_151) rfl rfl ?_
      refine Win.go (fun _ k => XS.iadd X_54.here hx rfl (hb hby d3_152) rfl k) ?_
      show Win p.tables e below _ (T_54.setTop (mkF m 153 #[.val (.ref a), .val (.ref u), .val (.int p2), .val (.int p3), .val (.int (0 : Int32))] [(.int (1 : Int32)), (.ref a), (.int (0 : Int32)), (.ref li)]))
      obtain ⟨T_55, h_55, X_55, e_55, W_55, st_55⟩ := putF X_54 hx hZ hown (host := "") (Or.inl (hw _ (List.mem_of_getElem? (i := 24) rfl))) Via.refl e_54 F_count_a E_a (Or.inl (hw _ (List.mem_of_getElem? (i := 25) rfl))) (hw _ (List.mem_of_getElem? (i := 2) rfl)) (ty := .int) (by decide) rfl rfl (g := (mkF m 153 #[.val (.ref a), .val (.ref u), .val (.int p2), .val (.int p3), .val (.int (0 : Int32))] [(.int (1 : Int32)), (.ref a), (.int (0 : Int32)), (.ref li)])) rfl rfl (hb hby d3_153)
      replace E_a := E_a.wr W_55
      replace F_bytes_a := F_bytes_a.other W_55 (Or.inr (slot_ne (Or.inl (hw _ (List.mem_of_getElem? (i := 11) rfl))) (Or.inl (hw _ (List.mem_of_getElem? (i := 25) rfl))) (by decide) (t := (.array .byte)) (t' := .int) (by decide) (by decide)))
      replace F_ends_a := F_ends_a.other W_55 (Or.inr (slot_ne (Or.inl (hw _ (List.mem_of_getElem? (i := 14) rfl))) (Or.inl (hw _ (List.mem_of_getElem? (i := 25) rfl))) (by decide) (t := (.array .int)) (t' := .int) (by decide) (by decide)))
      replace F_lines_a := F_lines_a.other W_55 (Or.inr (slot_ne (Or.inl (hw _ (List.mem_of_getElem? (i := 16) rfl))) (Or.inl (hw _ (List.mem_of_getElem? (i := 25) rfl))) (by decide) (t := (.array .int)) (t' := .int) (by decide) (by decide)))
      replace A_li := A_li.other W_55 (Ne.symm ne_a_li)
      replace B_u := B_u.other W_55 (Ne.symm ne_a_u)
      replace B_bt := B_bt.other W_55 (Ne.symm ne_a_bt)
      replace A_en := A_en.other W_55 (Ne.symm ne_a_en)
      replace lt_a := Nat.lt_of_lt_of_le lt_a (Keep.of_wr W_55).1
      replace lt_bt := Nat.lt_of_lt_of_le lt_bt (Keep.of_wr W_55).1
      replace lt_en := Nat.lt_of_lt_of_le lt_en (Keep.of_wr W_55).1
      replace lt_li := Nat.lt_of_lt_of_le lt_li (Keep.of_wr W_55).1
      replace lt_u := Nat.lt_of_lt_of_le lt_u (Keep.of_wr W_55).1
      replace Zs := Nat.le_trans Zs (Keep.of_wr W_55).1
      replace Kp := Kp.wr W_55 (Or.inl (by simp))
      replace F_count_a := F_count_a.same W_55
      replace Nf := Fr.snoc X_55 Nf g_a
      refine Win.go st_55 ?_
      clear st_55 W_55 X_54 e_54
      show Win p.tables e below _ (T_55.setTop (mkF m 156 #[.val (.ref a), .val (.ref u), .val (.int p2), .val (.int p3), .val (.int (0 : Int32))] [(.int (0 : Int32)), (.ref li)]))
      refine s_iloadN (pc' := 157) X_55.here hx (hb hby d3_156) rfl rfl ?_
      obtain ⟨cl_56, Ar_56, S_56, G_56⟩ := id A_li
      have hb_56 : 0 ≤ ((0 : Int32)).toInt ∧ ((0 : Int32)).toInt < 16 := by decide
      obtain ⟨T_56, h_56, X_56, e_56, W_56, st_56⟩ := stI X_55 hx hZ e_55 Ar_56 (j := (0 : Int32)) (AF.inb S_56 hb_56) (g := (mkF m 157 #[.val (.ref a), .val (.ref u), .val (.int p2), .val (.int p3), .val (.int (0 : Int32))] [(.int p3), (.int (0 : Int32)), (.ref li)])) rfl rfl (hb hby d3_157)
      have A_56 : AF Z h_56 li .int 16 (updF lf (0 : Int) p3) := AF.set Ar_56 S_56 G_56 W_56 hb_56
      replace E_a := E_a.wr W_56
      replace F_bytes_a := F_bytes_a.other W_56 (Or.inl ne_a_li)
      replace F_ends_a := F_ends_a.other W_56 (Or.inl ne_a_li)
      replace F_lines_a := F_lines_a.other W_56 (Or.inl ne_a_li)
      replace F_count_a := F_count_a.other W_56 (Or.inl ne_a_li)
      replace B_u := B_u.other W_56 (Ne.symm ne_li_u)
      replace B_bt := B_bt.other W_56 ne_bt_li
      replace A_en := A_en.other W_56 ne_en_li
      replace lt_a := Nat.lt_of_lt_of_le lt_a (Keep.of_wr W_56).1
      replace lt_bt := Nat.lt_of_lt_of_le lt_bt (Keep.of_wr W_56).1
      replace lt_en := Nat.lt_of_lt_of_le lt_en (Keep.of_wr W_56).1
      replace lt_li := Nat.lt_of_lt_of_le lt_li (Keep.of_wr W_56).1
      replace lt_u := Nat.lt_of_lt_of_le lt_u (Keep.of_wr W_56).1
      replace Zs := Nat.le_trans Zs (Keep.of_wr W_56).1
      replace Kp := Kp.wr W_56 (Or.inl (by simp))
      replace A_li := A_56
      replace Nf := Fr.snoc X_56 Nf g_li
      refine Win.go st_56 ?_
      clear st_56 W_56 A_56 Ar_56 S_56 G_56 hb_56 X_55 e_55
      show Win p.tables e below _ (T_56.setTop (mkF m 158 #[.val (.ref a), .val (.ref u), .val (.int p2), .val (.int p3), .val (.int (0 : Int32))] []))
      refine winV X_56 hx hlk e_56 Bd.returns (hb hby d3_158) (by decide) (by decide) ?_
      exact ⟨Nf, Kp, ⟨bt, z, g_bt, ne_bt_en, ne_bt_li, (Ne.symm ne_a_bt), ne_bt_u, ⟨hp.2.2.1, Int.le_trans hp.2.2.2 (by decide)⟩, F_bytes_a, F_ends_a, F_lines_a, F_count_a, B_bt, A_en, A_li⟩, rfl⟩
theorem ef_3_1 (m : MethodId) (a : Addr) (u : Addr) (p2 : Int32) (p3 : Int32) : entryFrame m #[(.ref a), (.ref u), (.int p2), (.int p3)] 5 = mkF m 0 #[.val (.ref a), .val (.ref u), .val (.int p2), .val (.int p3), .unset] [] := by first | (simp [entryFrame, mkF, argsToLocals, Value.category]; done) | rfl
def Q3_1 (Z : State) (a : Addr) (u : Addr) (p2 : Int32) (p3 : Int32) (bt : Addr) (en : Addr) (li : Addr) (z : Int32) (ef : Int → Int32) (lf : Int → Int32) (h0 : Heap) (n0 : Nat) (v : Option Value) (h : Heap) (L : List Loc) : Prop := Fr n0 L ∧ Keep h0 h [a, bt, en, li] ∧ (∃ (bt2 : Addr) (z2 : Int32), (n0 ≤ bt2) ∧ (bt2 ≠ en) ∧ (bt2 ≠ li) ∧ (bt2 ≠ a) ∧ (bt2 ≠ u) ∧ (16 ≤ z2.toInt ∧ z2.toInt ≤ 64) ∧ (Fld Z h a "com/example/nearstable/nearstable/files/StringBatch" "bytes" "[B" (.ref bt2)) ∧ (Fld Z h a "com/example/nearstable/nearstable/files/StringBatch" "ends" "[I" (.ref en)) ∧ (Fld Z h a "com/example/nearstable/nearstable/files/StringBatch" "lines" "[I" (.ref li)) ∧ (Fld Z h a "com/example/nearstable/nearstable/files/StringBatch" "count" "I" (.int (2 : Int32))) ∧ (BA Z h bt2 z2) ∧ (AF Z h en .int 16 (updF ef (1 : Int) ((ef (0 : Int)) + p2))) ∧ (AF Z h li .int 16 (updF lf (1 : Int) p3))) ∧ v = none
set_option maxRecDepth 65536 in
set_option maxHeartbeats 40000000 in
theorem rm3_1 (l : Launch) (Z : State) (a0 : Array Value) (hw : ∀ d ∈ tables_1, d.before a0 Z = true) (ws : List Jvm.Cond) (a : Addr) (u : Addr) (p2 : Int32) (p3 : Int32) (bt : Addr) (en : Addr) (li : Addr) (z : Int32) (ef : Int → Int32) (lf : Int → Int32) (h0 : Heap) (n0 : Nat) (Zs : n0 ≤ h0.size) (E_a : Exa Z h0 a "com/example/nearstable/nearstable/files/StringBatch") (F_bytes_a : Fld Z h0 a "com/example/nearstable/nearstable/files/StringBatch" "bytes" "[B" (.ref bt)) (F_ends_a : Fld Z h0 a "com/example/nearstable/nearstable/files/StringBatch" "ends" "[I" (.ref en)) (F_lines_a : Fld Z h0 a "com/example/nearstable/nearstable/files/StringBatch" "lines" "[I" (.ref li)) (F_count_a : Fld Z h0 a "com/example/nearstable/nearstable/files/StringBatch" "count" "I" (.int (1 : Int32))) (B_bt : BA Z h0 bt z) (A_en : AF Z h0 en .int 16 ef) (A_li : AF Z h0 li .int 16 lf) (B_u : BA Z h0 u (32 : Int32)) (g_a : n0 ≤ a) (g_bt : n0 ≤ bt) (g_en : n0 ≤ en) (g_li : n0 ≤ li) (ne_a_bt : a ≠ bt) (ne_a_en : a ≠ en) (ne_a_li : a ≠ li) (ne_a_u : a ≠ u) (ne_bt_en : bt ≠ en) (ne_bt_li : bt ≠ li) (ne_bt_u : bt ≠ u) (ne_en_li : en ≠ li) (ne_en_u : en ≠ u) (ne_li_u : li ≠ u) (hp : 0 ≤ p2.toInt ∧ p2.toInt ≤ 31 ∧ 16 ≤ z.toInt ∧ z.toInt ≤ 32) (hq : 0 ≤ (ef (0 : Int)).toInt ∧ (ef (0 : Int)).toInt ≤ 31) :
    MetFree l (⟨"com/example/nearstable/nearstable/files/StringBatch", "add", "([BII)V"⟩ : MethodName) (head1 (Jvm.Cond.code (⟨"com/example/nearstable/nearstable/files/StringBatch", "add", "([BII)V"⟩ : MethodName) prog_38_method_5_code 5 none :: ws) ({ frames := 2, cells := 1, slots := 128, locals := 55 } : Room)) (fun as' U => as' = #[(.ref a), (.ref u), (.int p2), (.int p3)] ∧ Z.Warmed39 U.vm ∧ U.heap = h0) (fun _ _ _ _ _ => True) (fun _ U o U' => ∃ v L, o = .returned v ∧ Q3_1 Z a u p2 p3 bt en li z ef lf h0 n0 v U'.heap L ∧ FrameEnd U o U' L ({ frames := 2, cells := 1, slots := 128, locals := 55 } : Room).cells ({ frames := 2, cells := 1, slots := 128, locals := 55 } : Room).slots) := by
  refine MetFree.of_bodySF (plainFor_of_name pn_1) hisR ?_
  intro p e s m args below meth c s₁ Bd hml0 hP hK
  obtain ⟨rfl, hZ, hh⟩ := hP
  have hx := Bd.exec
  have hby := Bd.bytes
  have hml : c.maxLocals = 5 := hml0
  have hown : s.vm.findClass "com/example/nearstable/nearstable/files/StringBatch" = some m.cls := findClass_of_methodNamed Bd.named
  have hnm := (name_of_methodNamed Bd.named Bd.method).1
  have hlk : meth.locks = false := Bd.notSynchronized
  have X0 : Stand p l e ({ frames := 2, cells := 1, slots := 128, locals := 55 } : Room) s m #[(.ref a), (.ref u), (.int p2), (.int p3)] below meth c s₁ [] 0 0 := Stand.of_body Bd
  have e0 : s₁.heap = h0 := by rw [← hh, Bd.state]; rfl
  have Nf := Fr.nil n0
  refine (?_ : Win p.tables e below (PostQ s (Q3_1 Z a u p2 p3 bt en li z ef lf h0 n0) ({ frames := 2, cells := 1, slots := 128, locals := 55 } : Room).cells ({ frames := 2, cells := 1, slots := 128, locals := 55 } : Room).slots) (s₁.setTop (entryFrame m #[(.ref a), (.ref u), (.int p2), (.int p3)] 5)))
  rw [ef_3_1]
  have Kp : Keep h0 h0 [a, bt, en, li] := Keep.refl h0 _
  have lt_a : a < h0.size := E_a.lt
  have lt_bt : bt < h0.size := B_bt.lt
  have lt_en : en < h0.size := A_en.lt
  have lt_li : li < h0.size := A_li.lt
  have lt_u : u < h0.size := B_u.lt
  show Win p.tables e below _ (s₁.setTop (mkF m 0 #[.val (.ref a), .val (.ref u), .val (.int p2), .val (.int p3), .unset] []))
  refine s_aloadN (pc' := 1) X0.here hx (hb hby d3_0) rfl rfl rfl ?_
  refine s_aloadN (pc' := 2) X0.here hx (hb hby d3_1) rfl rfl rfl ?_
  obtain ⟨T_57, X_57, e_57, st_57⟩ := getF X0 hx hZ hown (host := "") (Or.inl (hw _ (List.mem_of_getElem? (i := 24) rfl))) Via.refl e0 F_count_a (g := (mkF m 2 #[.val (.ref a), .val (.ref u), .val (.int p2), .val (.int p3), .unset] [(.ref a), (.ref a)])) rfl rfl (hb hby d3_2)
  refine Win.go st_57 ?_
  clear st_57 X0 e0
  show Win p.tables e below _ (T_57.setTop (mkF m 5 #[.val (.ref a), .val (.ref u), .val (.int p2), .val (.int p3), .unset] [(.int (1 : Int32)), (.ref a)]))
  obtain ⟨cq_58, kq_58, q_58a, q_58b, q_58c⟩ := isOf hZ e_57 E_a
  obtain ⟨_, _, ⟨T_58, L_58, k_58, n_58⟩, -, X_58, ⟨Lc_58, hQ_58, l_58, y_58, z_58⟩, st_58⟩ := X_57.virtualBack hx (y := (⟨"com/example/nearstable/nearstable/files/StringBatch", "start", "(I)I"⟩ : MethodName)) (z := (⟨"com/example/nearstable/nearstable/files/StringBatch", "start", "(I)I"⟩ : MethodName)) hown (mvT hZ (hw _ (List.mem_of_getElem? (i := 26) rfl))) (mvT hZ (hw _ (List.mem_of_getElem? (i := 27) rfl))) (notFace_of_selects (args := #[]) (mvT hZ (hw _ (List.mem_of_getElem? (i := 29) rfl)))) (mvT hZ (hw _ (List.mem_of_getElem? (i := 29) rfl))) (mvT hZ (hw _ (List.mem_of_getElem? (i := 28) rfl))) (by decide) (backOf (W := 0) (rm4_1 l Z a0 hw [] a en ef h0 n0 Zs F_ends_a A_en) hZ (hw _ (List.mem_of_getElem? (i := 30) rfl)) (hw _ (List.mem_of_getElem? (i := 3) rfl)) (by decide) (by decide)) q_58a q_58c (g := (mkF m 5 #[.val (.ref a), .val (.ref u), .val (.int p2), .val (.int p3), .unset] [(.int (1 : Int32)), (.ref a)])) rfl (by rw [hml]; rfl) (Steps.refl _) (argsL := [(.int (1 : Int32))]) (rest := []) (lenOf pd_2 rfl) rfl (by show 2 * 0 + _ ≤ _; exact Nat.le_of_eq rfl) (hb hby d3_5) (fun _ _ => ⟨rfl, e_57, (by decide : 0 + 0 ≤ _), (by decide : 0 + 0 ≤ _)⟩)
  dsimp only [Pt.U, Pt.locs, Pt.cells, Pt.slots] at X_58 l_58 y_58 z_58 st_58 hQ_58
  subst l_58 y_58 z_58
  obtain ⟨Nq_58, e_58, rfl⟩ := hQ_58
  replace Nf := Fr.app Nf Nq_58
  refine Win.come st_58 ?_
  clear st_58 Nq_58 X_57 e_57
  show Win p.tables e below _ (T_58.setTop (mkF m 8 #[.val (.ref a), .val (.ref u), .val (.int p2), .val (.int p3), .unset] [(.int (ef (0 : Int)))]))
  refine s_istore (pc' := 10) (l' := #[.val (.ref a), .val (.ref u), .val (.int p2), .val (.int p3), .val (.int (ef (0 : Int)))]) X_58.here hx (hb hby d3_8) rfl rfl ?_
  generalize hs0 : (ef (0 : Int)) = s0
  show Win p.tables e below _ (T_58.setTop (mkF m 10 #[.val (.ref a), .val (.ref u), .val (.int p2), .val (.int p3), .val (.int s0)] []))
  rw [hs0] at hq
  have hS := hq
  have hsp := own_sp ⟨hS.1, Int.le_trans hS.2 (by decide)⟩ hp.1 hp.2.1
  refine s_iloadN (pc' := 11) X_58.here hx (hb hby d3_10) rfl rfl ?_
  refine Win.go (fun _ k => X_58.ldcInt hx hown (mvT hZ (hw _ (List.mem_of_getElem? (i := 31) rfl))) (g := (mkF m 11 #[.val (.ref a), .val (.ref u), .val (.int p2), .val (.int p3), .val (.int s0)] [(.int p2)])) rfl (hb hby d3_11) _ k) ?_
  show Win p.tables e below _ (T_58.setTop (mkF m 13 #[.val (.ref a), .val (.ref u), .val (.int p2), .val (.int p3), .val (.int s0)] [(.int (2147483639 : Int32)), (.int p2)]))
  refine s_iload (pc' := 15) X_58.here hx (hb hby d3_13) rfl rfl ?_
  refine s_isub (pc' := 16) X_58.here hx (hb hby d3_15) rfl ?_
  by_cases hc16 : (((2147483639 : Int32) - s0)).toInt < (p2).toInt
  · skip
    exfalso
    exact own_mx ⟨hS.1, Int.le_trans hS.2 (by decide)⟩ hp.2.1 hc16
  · skip
    refine s_icmpYes (pc' := 29) X_58.here hx (hb hby d3_16) (fltI (x := ((2147483639 : Int32) - s0)) (y := p2) hc16).2.2.2 (by decide) (by decide) ?_
    refine s_iload (pc' := 31) X_58.here hx (hb hby d3_29) rfl rfl ?_
    refine s_iloadN (pc' := 32) X_58.here hx (hb hby d3_31) rfl rfl ?_
    refine s_iadd (pc' := 33) X_58.here hx (hb hby d3_32) rfl ?_
    refine s_aloadN (pc' := 34) X_58.here hx (hb hby d3_33) rfl rfl rfl ?_
    obtain ⟨T_59, X_59, e_59, st_59⟩ := getF X_58 hx hZ hown (host := "") (Or.inl (hw _ (List.mem_of_getElem? (i := 10) rfl))) Via.refl e_58 F_bytes_a (g := (mkF m 34 #[.val (.ref a), .val (.ref u), .val (.int p2), .val (.int p3), .val (.int s0)] [(.ref a), (.int (s0 + p2))])) rfl rfl (hb hby d3_34)
    refine Win.go st_59 ?_
    clear st_59 X_58 e_58
    show Win p.tables e below _ (T_59.setTop (mkF m 37 #[.val (.ref a), .val (.ref u), .val (.int p2), .val (.int p3), .val (.int s0)] [(.ref bt), (.int (s0 + p2))]))
    obtain ⟨k_60, vs_60, cl_60, Ar_60, q_60, S_60, N_60, H_60, G_60⟩ := id B_bt
    refine Win.go (fun _ k => X_59.arraylength hx (by rw [e_59]; exact Ar_60.1) (State.isArrayOf_alike hZ.alike Ar_60.2.1) (g := (mkF m 37 #[.val (.ref a), .val (.ref u), .val (.int p2), .val (.int p3), .val (.int s0)] [(.ref bt), (.int (s0 + p2))])) rfl rfl (hb hby d3_37) _ k) ?_
    rw [len_of S_60 N_60]
    clear Ar_60 q_60 S_60 N_60 H_60 G_60
    show Win p.tables e below _ (T_59.setTop (mkF m 38 #[.val (.ref a), .val (.ref u), .val (.int p2), .val (.int p3), .val (.int s0)] [(.int z), (.int (s0 + p2))]))
    by_cases hc38 : (z).toInt < ((s0 + p2)).toInt
    · skip
      refine s_icmpNo (pc' := 41) X_59.here hx (hb hby d3_38) rfl (tltI (x := z) (y := (s0 + p2)) hc38).2.2.2 ?_
      refine s_aloadN (pc' := 42) X_59.here hx (hb hby d3_41) rfl rfl rfl ?_
      refine s_aloadN (pc' := 43) X_59.here hx (hb hby d3_42) rfl rfl rfl ?_
      obtain ⟨T_61, X_61, e_61, st_61⟩ := getF X_59 hx hZ hown (host := "") (Or.inl (hw _ (List.mem_of_getElem? (i := 10) rfl))) Via.refl e_59 F_bytes_a (g := (mkF m 43 #[.val (.ref a), .val (.ref u), .val (.int p2), .val (.int p3), .val (.int s0)] [(.ref a), (.ref a)])) rfl rfl (hb hby d3_43)
      refine Win.go st_61 ?_
      clear st_61 X_59 e_59
      show Win p.tables e below _ (T_61.setTop (mkF m 46 #[.val (.ref a), .val (.ref u), .val (.int p2), .val (.int p3), .val (.int s0)] [(.ref bt), (.ref a)]))
      refine s_aloadN (pc' := 47) X_61.here hx (hb hby d3_46) rfl rfl rfl ?_
      obtain ⟨T_62, X_62, e_62, st_62⟩ := getF X_61 hx hZ hown (host := "") (Or.inl (hw _ (List.mem_of_getElem? (i := 10) rfl))) Via.refl e_61 F_bytes_a (g := (mkF m 47 #[.val (.ref a), .val (.ref u), .val (.int p2), .val (.int p3), .val (.int s0)] [(.ref a), (.ref bt), (.ref a)])) rfl rfl (hb hby d3_47)
      refine Win.go st_62 ?_
      clear st_62 X_61 e_61
      show Win p.tables e below _ (T_62.setTop (mkF m 50 #[.val (.ref a), .val (.ref u), .val (.int p2), .val (.int p3), .val (.int s0)] [(.ref bt), (.ref bt), (.ref a)]))
      obtain ⟨k_63, vs_63, cl_63, Ar_63, q_63, S_63, N_63, H_63, G_63⟩ := id B_bt
      refine Win.go (fun _ k => X_62.arraylength hx (by rw [e_62]; exact Ar_63.1) (State.isArrayOf_alike hZ.alike Ar_63.2.1) (g := (mkF m 50 #[.val (.ref a), .val (.ref u), .val (.int p2), .val (.int p3), .val (.int s0)] [(.ref bt), (.ref bt), (.ref a)])) rfl rfl (hb hby d3_50) _ k) ?_
      rw [len_of S_63 N_63]
      clear Ar_63 q_63 S_63 N_63 H_63 G_63
      show Win p.tables e below _ (T_62.setTop (mkF m 51 #[.val (.ref a), .val (.ref u), .val (.int p2), .val (.int p3), .val (.int s0)] [(.int z), (.ref bt), (.ref a)]))
      refine s_iload (pc' := 53) X_62.here hx (hb hby d3_51) rfl rfl ?_
      refine s_iloadN (pc' := 54) X_62.here hx (hb hby d3_53) rfl rfl ?_
      refine s_iadd (pc' := 55) X_62.here hx (hb hby d3_54) rfl ?_
      obtain ⟨_, _, ⟨T_64, L_64, k_64, n_64⟩, -, X_64, ⟨Lc_64, hQ_64, l_64, y_64, z_64⟩, st_64⟩ := Jvm.LawKit.callS X_62 hx (y := (⟨"com/example/nearstable/nearstable/market/Market", "grownLength", "(II)I"⟩ : MethodName)) hown (mvT hZ (hw _ (List.mem_of_getElem? (i := 37) rfl))) (mvT hZ (hw _ (List.mem_of_getElem? (i := 38) rfl))) (mvT hZ (hw _ (List.mem_of_getElem? (i := 39) rfl))) (mvT hZ (hw _ (List.mem_of_getElem? (i := 40) rfl))) (by decide) (backOf (W := 2) (rm5 l Z a0 hw [] z (s0 + p2) h0 n0 Zs (own_gp_1 hp hS hsp)) hZ (hw _ (List.mem_of_getElem? (i := 40) rfl)) (hw _ (List.mem_of_getElem? (i := 39) rfl)) (by decide) (by decide)) (g := (mkF m 55 #[.val (.ref a), .val (.ref u), .val (.int p2), .val (.int p3), .val (.int s0)] [(.int (s0 + p2)), (.int z), (.ref bt), (.ref a)])) rfl (by rw [hml]; rfl) (argsL := [(.int z), (.int (s0 + p2))]) (rest := [(.ref bt), (.ref a)]) (lenOf pd_1 rfl) rfl (by show 2 * 0 + _ ≤ _; exact Nat.le_of_eq rfl) (hb hby d3_55) (fun _ _ => ⟨rfl, e_62, (by decide : 0 + 0 ≤ _), (by decide : 0 + 0 ≤ _)⟩)
      dsimp only [Pt.U, Pt.locs, Pt.cells, Pt.slots] at X_64 l_64 y_64 z_64 st_64 hQ_64
      subst l_64 y_64 z_64
      obtain ⟨Nq_64, e_64, gl, rfl, hgl⟩ := hQ_64
      replace Nf := Fr.app Nf Nq_64
      refine Win.go st_64 ?_
      clear st_64 Nq_64 X_62 e_62
      show Win p.tables e below _ (T_64.setTop (mkF m 58 #[.val (.ref a), .val (.ref u), .val (.int p2), .val (.int p3), .val (.int s0)] [(.int gl), (.ref bt), (.ref a)]))
      obtain ⟨_, _, ⟨T_65, L_65, k_65, n_65⟩, -, X_65, ⟨Lc_65, hQ_65, l_65, y_65, z_65⟩, st_65⟩ := Jvm.LawKit.callS X_64 hx (y := (⟨"java/util/Arrays", "copyOf", "([BI)[B"⟩ : MethodName)) hown (mvT hZ (hw _ (List.mem_of_getElem? (i := 50) rfl))) (mvT hZ (hw _ (List.mem_of_getElem? (i := 51) rfl))) (mvT hZ (hw _ (List.mem_of_getElem? (i := 52) rfl))) (mvT hZ (hw _ (List.mem_of_getElem? (i := 53) rfl))) (by decide) (backOf (W := 1) (rm8 l Z a0 hw [] bt gl z h0 n0 Zs B_bt (own_nb_1 hp hS hsp hgl)) hZ (hw _ (List.mem_of_getElem? (i := 53) rfl)) (hw _ (List.mem_of_getElem? (i := 52) rfl)) (by decide) (by decide)) (g := (mkF m 58 #[.val (.ref a), .val (.ref u), .val (.int p2), .val (.int p3), .val (.int s0)] [(.int gl), (.ref bt), (.ref a)])) rfl (by rw [hml]; rfl) (argsL := [(.ref bt), (.int gl)]) (rest := [(.ref a)]) (lenOf pd_3 rfl) rfl (by show 2 * 0 + _ ≤ _; exact Nat.le_of_eq rfl) (hb hby d3_58) (fun _ _ => ⟨rfl, e_64, (by decide : 0 + 1 ≤ _), (by decide : 0 + 128 ≤ _)⟩)
      dsimp only [Pt.U, Pt.locs, Pt.cells, Pt.slots] at X_65 l_65 y_65 z_65 st_65 hQ_65
      subst l_65 y_65 z_65
      obtain ⟨h_65, e_65⟩ : ∃ z, T_65.heap = z := ⟨_, rfl⟩
      rw [e_65] at hQ_65
      obtain ⟨Nq_65, K_65, nb, rfl, g_nb, so_65, n_65_B_nb⟩ := hQ_65
      replace Nf := Fr.app Nf Nq_65
      have ne_a_nb : a ≠ nb := Nat.ne_of_lt (Nat.lt_of_lt_of_le lt_a so_65)
      have ne_bt_nb : bt ≠ nb := Nat.ne_of_lt (Nat.lt_of_lt_of_le lt_bt so_65)
      have ne_en_nb : en ≠ nb := Nat.ne_of_lt (Nat.lt_of_lt_of_le lt_en so_65)
      have ne_li_nb : li ≠ nb := Nat.ne_of_lt (Nat.lt_of_lt_of_le lt_li so_65)
      have ne_u_nb : u ≠ nb := Nat.ne_of_lt (Nat.lt_of_lt_of_le lt_u so_65)
      have sz_nb : h0.size ≤ nb := Nat.le_trans Kp.1 so_65
      replace E_a := E_a.keep K_65
      replace F_bytes_a := F_bytes_a.keep K_65 nin0
      replace F_ends_a := F_ends_a.keep K_65 nin0
      replace F_lines_a := F_lines_a.keep K_65 nin0
      replace F_count_a := F_count_a.keep K_65 nin0
      replace B_bt := B_bt.keep K_65 nin0
      replace A_en := A_en.keep K_65 nin0
      replace A_li := A_li.keep K_65 nin0
      replace B_u := B_u.keep K_65 nin0
      replace lt_a := Nat.lt_of_lt_of_le lt_a K_65.1
      replace lt_bt := Nat.lt_of_lt_of_le lt_bt K_65.1
      replace lt_en := Nat.lt_of_lt_of_le lt_en K_65.1
      replace lt_li := Nat.lt_of_lt_of_le lt_li K_65.1
      replace lt_u := Nat.lt_of_lt_of_le lt_u K_65.1
      replace Zs := Nat.le_trans Zs K_65.1
      replace Kp := Kp.trans K_65 all0
      have B_nb := n_65_B_nb
      have lt_nb := B_nb.lt
      refine Win.go st_65 ?_
      clear st_65 Nq_65 X_64 e_64 K_65
      show Win p.tables e below _ (T_65.setTop (mkF m 61 #[.val (.ref a), .val (.ref u), .val (.int p2), .val (.int p3), .val (.int s0)] [(.ref nb), (.ref a)]))
      obtain ⟨T_66, h_66, X_66, e_66, W_66, st_66⟩ := putF X_65 hx hZ hown (host := "") (Or.inl (hw _ (List.mem_of_getElem? (i := 10) rfl))) Via.refl e_65 F_bytes_a E_a (Or.inl (hw _ (List.mem_of_getElem? (i := 11) rfl))) (hw _ (List.mem_of_getElem? (i := 2) rfl)) (ty := (.array .byte)) (by decide) rfl rfl (g := (mkF m 61 #[.val (.ref a), .val (.ref u), .val (.int p2), .val (.int p3), .val (.int s0)] [(.ref nb), (.ref a)])) rfl rfl (hb hby d3_61)
      replace E_a := E_a.wr W_66
      replace F_ends_a := F_ends_a.other W_66 (Or.inr (slot_ne (Or.inl (hw _ (List.mem_of_getElem? (i := 14) rfl))) (Or.inl (hw _ (List.mem_of_getElem? (i := 11) rfl))) (by decide) (t := (.array .int)) (t' := (.array .byte)) (by decide) (by decide)))
      replace F_lines_a := F_lines_a.other W_66 (Or.inr (slot_ne (Or.inl (hw _ (List.mem_of_getElem? (i := 16) rfl))) (Or.inl (hw _ (List.mem_of_getElem? (i := 11) rfl))) (by decide) (t := (.array .int)) (t' := (.array .byte)) (by decide) (by decide)))
      replace F_count_a := F_count_a.other W_66 (Or.inr (slot_ne (Or.inl (hw _ (List.mem_of_getElem? (i := 25) rfl))) (Or.inl (hw _ (List.mem_of_getElem? (i := 11) rfl))) (by decide) (t := .int) (t' := (.array .byte)) (by decide) (by decide)))
      replace B_bt := B_bt.other W_66 (Ne.symm ne_a_bt)
      replace A_en := A_en.other W_66 (Ne.symm ne_a_en)
      replace A_li := A_li.other W_66 (Ne.symm ne_a_li)
      replace B_u := B_u.other W_66 (Ne.symm ne_a_u)
      replace B_nb := B_nb.other W_66 (Ne.symm ne_a_nb)
      replace lt_a := Nat.lt_of_lt_of_le lt_a (Keep.of_wr W_66).1
      replace lt_bt := Nat.lt_of_lt_of_le lt_bt (Keep.of_wr W_66).1
      replace lt_en := Nat.lt_of_lt_of_le lt_en (Keep.of_wr W_66).1
      replace lt_li := Nat.lt_of_lt_of_le lt_li (Keep.of_wr W_66).1
      replace lt_u := Nat.lt_of_lt_of_le lt_u (Keep.of_wr W_66).1
      replace lt_nb := Nat.lt_of_lt_of_le lt_nb (Keep.of_wr W_66).1
      replace Zs := Nat.le_trans Zs (Keep.of_wr W_66).1
      replace Kp := Kp.wr W_66 (Or.inl (by simp))
      replace F_bytes_a := F_bytes_a.same W_66
      replace Nf := Fr.snoc X_66 Nf g_a
      refine Win.go st_66 ?_
      clear st_66 W_66 X_65 e_65
      show Win p.tables e below _ (T_66.setTop (mkF m 64 #[.val (.ref a), .val (.ref u), .val (.int p2), .val (.int p3), .val (.int s0)] []))
      refine s_aloadN (pc' := 65) X_66.here hx (hb hby d3_64) rfl rfl rfl ?_
      obtain ⟨T_67, X_67, e_67, st_67⟩ := getF X_66 hx hZ hown (host := "") (Or.inl (hw _ (List.mem_of_getElem? (i := 24) rfl))) Via.refl e_66 F_count_a (g := (mkF m 65 #[.val (.ref a), .val (.ref u), .val (.int p2), .val (.int p3), .val (.int s0)] [(.ref a)])) rfl rfl (hb hby d3_65)
      refine Win.go st_67 ?_
      clear st_67 X_66 e_66
      show Win p.tables e below _ (T_67.setTop (mkF m 68 #[.val (.ref a), .val (.ref u), .val (.int p2), .val (.int p3), .val (.int s0)] [(.int (1 : Int32))]))
      refine s_aloadN (pc' := 69) X_67.here hx (hb hby d3_68) rfl rfl rfl ?_
      obtain ⟨T_68, X_68, e_68, st_68⟩ := getF X_67 hx hZ hown (host := "") (Or.inl (hw _ (List.mem_of_getElem? (i := 13) rfl))) Via.refl e_67 F_ends_a (g := (mkF m 69 #[.val (.ref a), .val (.ref u), .val (.int p2), .val (.int p3), .val (.int s0)] [(.ref a), (.int (1 : Int32))])) rfl rfl (hb hby d3_69)
      refine Win.go st_68 ?_
      clear st_68 X_67 e_67
      show Win p.tables e below _ (T_68.setTop (mkF m 72 #[.val (.ref a), .val (.ref u), .val (.int p2), .val (.int p3), .val (.int s0)] [(.ref en), (.int (1 : Int32))]))
      obtain ⟨cl_69, Ar_69, S_69, G_69⟩ := id A_en
      refine Win.go (fun _ k => X_68.arraylength hx (by rw [e_68]; exact Ar_69.1) (State.isArrayOf_alike hZ.alike Ar_69.2.1) (g := (mkF m 72 #[.val (.ref a), .val (.ref u), .val (.int p2), .val (.int p3), .val (.int s0)] [(.ref en), (.int (1 : Int32))])) rfl rfl (hb hby d3_72) _ k) ?_
      rw [S_69]
      clear Ar_69 S_69 G_69
      show Win p.tables e below _ (T_68.setTop (mkF m 73 #[.val (.ref a), .val (.ref u), .val (.int p2), .val (.int p3), .val (.int s0)] [(.int (16 : Int32)), (.int (1 : Int32))]))
      refine s_icmpYes (pc' := 116) X_68.here hx (hb hby d3_73) (feqI (x := (1 : Int32)) (y := (16 : Int32)) (by decide)).2 (by decide) (by decide) ?_
      refine s_aloadN (pc' := 117) X_68.here hx (hb hby d3_116) rfl rfl rfl ?_
      refine s_iconst (pc' := 118) (z := (0 : Int32)) X_68.here hx (hb hby d3_117) rfl rfl ?_
      refine s_aloadN (pc' := 119) X_68.here hx (hb hby d3_118) rfl rfl rfl ?_
      obtain ⟨T_70, X_70, e_70, st_70⟩ := getF X_68 hx hZ hown (host := "") (Or.inl (hw _ (List.mem_of_getElem? (i := 10) rfl))) Via.refl e_68 F_bytes_a (g := (mkF m 119 #[.val (.ref a), .val (.ref u), .val (.int p2), .val (.int p3), .val (.int s0)] [(.ref a), (.int (0 : Int32)), (.ref u)])) rfl rfl (hb hby d3_119)
      refine Win.go st_70 ?_
      clear st_70 X_68 e_68
      show Win p.tables e below _ (T_70.setTop (mkF m 122 #[.val (.ref a), .val (.ref u), .val (.int p2), .val (.int p3), .val (.int s0)] [(.ref nb), (.int (0 : Int32)), (.ref u)]))
      refine s_iload (pc' := 124) X_70.here hx (hb hby d3_122) rfl rfl ?_
      refine s_iloadN (pc' := 125) X_70.here hx (hb hby d3_124) rfl rfl ?_
      obtain ⟨T_71, h_71, L_71, X_71, e_71, Nf', K_71, B_71, st_71⟩ := cpBA X_70 hx hZ hown (hw _ (List.mem_of_getElem? (i := 32) rfl)) (hw _ (List.mem_of_getElem? (i := 35) rfl)) (hw _ (List.mem_of_getElem? (i := 33) rfl)) (hw _ (List.mem_of_getElem? (i := 34) rfl)) e_70 B_u B_nb (by decide) (by exact hS.1) (by exact hp.1) (by exact own_c4 hp.2.1) (by first | exact Int.le_trans (Int.le_of_eq hsp.symm) hgl.2.1 | exact Int.le_trans (Int.le_of_eq hsp.symm) (Int.not_lt.mp hc38)) Nf g_nb (g := (mkF m 125 #[.val (.ref a), .val (.ref u), .val (.int p2), .val (.int p3), .val (.int s0)] [(.int p2), (.int s0), (.ref nb), (.int (0 : Int32)), (.ref u)])) rfl (by rw [hml]; rfl) rfl (hb hby d3_125) (by decide) (W := 0) (by show 2 * 0 + _ ≤ _; exact Nat.le_of_eq rfl) (by decide)
      replace E_a := E_a.keep K_71
      replace F_bytes_a := F_bytes_a.keep K_71 (ninS ne_a_nb nin0)
      replace F_ends_a := F_ends_a.keep K_71 (ninS ne_a_nb nin0)
      replace F_lines_a := F_lines_a.keep K_71 (ninS ne_a_nb nin0)
      replace F_count_a := F_count_a.keep K_71 (ninS ne_a_nb nin0)
      replace B_bt := B_bt.keep K_71 (ninS ne_bt_nb nin0)
      replace A_en := A_en.keep K_71 (ninS ne_en_nb nin0)
      replace A_li := A_li.keep K_71 (ninS ne_li_nb nin0)
      replace B_u := B_u.keep K_71 (ninS ne_u_nb nin0)
      replace lt_a := Nat.lt_of_lt_of_le lt_a K_71.1
      replace lt_bt := Nat.lt_of_lt_of_le lt_bt K_71.1
      replace lt_en := Nat.lt_of_lt_of_le lt_en K_71.1
      replace lt_li := Nat.lt_of_lt_of_le lt_li K_71.1
      replace lt_u := Nat.lt_of_lt_of_le lt_u K_71.1
      replace lt_nb := Nat.lt_of_lt_of_le lt_nb K_71.1
      replace Zs := Nat.le_trans Zs K_71.1
      replace Kp := Kp.trans K_71 (allS (Or.inr sz_nb) all0)
      replace B_nb := B_71
      replace Nf := Nf'
      refine Win.go st_71 ?_
      show Win p.tables e below _ (T_71.setTop (mkF m 128 #[.val (.ref a), .val (.ref u), .val (.int p2), .val (.int p3), .val (.int s0)] []))
      refine s_aloadN (pc' := 129) X_71.here hx (hb hby d3_128) rfl rfl rfl ?_
      obtain ⟨T_72, X_72, e_72, st_72⟩ := getF X_71 hx hZ hown (host := "") (Or.inl (hw _ (List.mem_of_getElem? (i := 13) rfl))) Via.refl e_71 F_ends_a (g := (mkF m 129 #[.val (.ref a), .val (.ref u), .val (.int p2), .val (.int p3), .val (.int s0)] [(.ref a)])) rfl rfl (hb hby d3_129)
      refine Win.go st_72 ?_
      clear st_72 X_71 e_71
      show Win p.tables e below _ (T_72.setTop (mkF m 132 #[.val (.ref a), .val (.ref u), .val (.int p2), .val (.int p3), .val (.int s0)] [(.ref en)]))
      refine s_aloadN (pc' := 133) X_72.here hx (hb hby d3_132) rfl rfl rfl ?_
      obtain ⟨T_73, X_73, e_73, st_73⟩ := getF X_72 hx hZ hown (host := "") (Or.inl (hw _ (List.mem_of_getElem? (i := 24) rfl))) Via.refl e_72 F_count_a (g := (mkF m 133 #[.val (.ref a), .val (.ref u), .val (.int p2), .val (.int p3), .val (.int s0)] [(.ref a), (.ref en)])) rfl rfl (hb hby d3_133)
      refine Win.go st_73 ?_
      clear st_73 X_72 e_72
      show Win p.tables e below _ (T_73.setTop (mkF m 136 #[.val (.ref a), .val (.ref u), .val (.int p2), .val (.int p3), .val (.int s0)] [(.int (1 : Int32)), (.ref en)]))
      refine s_iload (pc' := 138) X_73.here hx (hb hby d3_136) rfl rfl ?_
      refine s_iloadN (pc' := 139) X_73.here hx (hb hby d3_138) rfl rfl ?_
      refine s_iadd (pc' := 140) X_73.here hx (hb hby d3_139) rfl ?_
      obtain ⟨cl_74, Ar_74, S_74, G_74⟩ := id A_en
      have hb_74 : 0 ≤ ((1 : Int32)).toInt ∧ ((1 : Int32)).toInt < 16 := by decide
      obtain ⟨T_74, h_74, X_74, e_74, W_74, st_74⟩ := stI X_73 hx hZ e_73 Ar_74 (j := (1 : Int32)) (AF.inb S_74 hb_74) (g := (mkF m 140 #[.val (.ref a), .val (.ref u), .val (.int p2), .val (.int p3), .val (.int s0)] [(.int (s0 + p2)), (.int (1 : Int32)), (.ref en)])) rfl rfl (hb hby d3_140)
      have A_74 : AF Z h_74 en .int 16 (updF ef (1 : Int) (s0 + p2)) := AF.set Ar_74 S_74 G_74 W_74 hb_74
      replace E_a := E_a.wr W_74
      replace F_bytes_a := F_bytes_a.other W_74 (Or.inl ne_a_en)
      replace F_ends_a := F_ends_a.other W_74 (Or.inl ne_a_en)
      replace F_lines_a := F_lines_a.other W_74 (Or.inl ne_a_en)
      replace F_count_a := F_count_a.other W_74 (Or.inl ne_a_en)
      replace B_bt := B_bt.other W_74 ne_bt_en
      replace A_li := A_li.other W_74 (Ne.symm ne_en_li)
      replace B_u := B_u.other W_74 (Ne.symm ne_en_u)
      replace B_nb := B_nb.other W_74 (Ne.symm ne_en_nb)
      replace lt_a := Nat.lt_of_lt_of_le lt_a (Keep.of_wr W_74).1
      replace lt_bt := Nat.lt_of_lt_of_le lt_bt (Keep.of_wr W_74).1
      replace lt_en := Nat.lt_of_lt_of_le lt_en (Keep.of_wr W_74).1
      replace lt_li := Nat.lt_of_lt_of_le lt_li (Keep.of_wr W_74).1
      replace lt_u := Nat.lt_of_lt_of_le lt_u (Keep.of_wr W_74).1
      replace lt_nb := Nat.lt_of_lt_of_le lt_nb (Keep.of_wr W_74).1
      replace Zs := Nat.le_trans Zs (Keep.of_wr W_74).1
      replace Kp := Kp.wr W_74 (Or.inl (by simp))
      replace A_en := A_74
      replace Nf := Fr.snoc X_74 Nf g_en
      refine Win.go st_74 ?_
      clear st_74 W_74 A_74 Ar_74 S_74 G_74 hb_74 X_73 e_73
      show Win p.tables e below _ (T_74.setTop (mkF m 141 #[.val (.ref a), .val (.ref u), .val (.int p2), .val (.int p3), .val (.int s0)] []))
      refine s_aloadN (pc' := 142) X_74.here hx (hb hby d3_141) rfl rfl rfl ?_
      obtain ⟨T_75, X_75, e_75, st_75⟩ := getF X_74 hx hZ hown (host := "") (Or.inl (hw _ (List.mem_of_getElem? (i := 15) rfl))) Via.refl e_74 F_lines_a (g := (mkF m 142 #[.val (.ref a), .val (.ref u), .val (.int p2), .val (.int p3), .val (.int s0)] [(.ref a)])) rfl rfl (hb hby d3_142)
      refine Win.go st_75 ?_
      clear st_75 X_74 e_74
      show Win p.tables e below _ (T_75.setTop (mkF m 145 #[.val (.ref a), .val (.ref u), .val (.int p2), .val (.int p3), .val (.int s0)] [(.ref li)]))
      refine s_aloadN (pc' := 146) X_75.here hx (hb hby d3_145) rfl rfl rfl ?_
      refine s_dup (pc' := 147) X_75.here hx (hb hby d3_146) rfl rfl ?_
      obtain ⟨T_76, X_76, e_76, st_76⟩ := getF X_75 hx hZ hown (host := "") (Or.inl (hw _ (List.mem_of_getElem? (i := 24) rfl))) Via.refl e_75 F_count_a (g := (mkF m 147 #[.val (.ref a), .val (.ref u), .val (.int p2), .val (.int p3), .val (.int s0)] [(.ref a), (.ref a), (.ref li)])) rfl rfl (hb hby d3_147)
      refine Win.go st_76 ?_
      clear st_76 X_75 e_75
      show Win p.tables e below _ (T_76.setTop (mkF m 150 #[.val (.ref a), .val (.ref u), .val (.int p2), .val (.int p3), .val (.int s0)] [(.int (1 : Int32)), (.ref a), (.ref li)]))
      refine Win.go (fun _ k => XS.dupX1 X_76.here hx rfl (hb hby d3_150) rfl rfl rfl k) ?_
      show Win p.tables e below _ (T_76.setTop (mkF m 151 #[.val (.ref a), .val (.ref u), .val (.int p2), .val (.int p3), .val (.int s0)] [(.int (1 : Int32)), (.ref a), (.int (1 : Int32)), (.ref li)]))
      refine s_iconst (pc' := 152) (z := (1 : Int32)) X_76.here hx (hb hby d3_151) rfl rfl ?_
      refine Win.go (fun _ k => XS.iadd X_76.here hx rfl (hb hby d3_152) rfl k) ?_
      show Win p.tables e below _ (T_76.setTop (mkF m 153 #[.val (.ref a), .val (.ref u), .val (.int p2), .val (.int p3), .val (.int s0)] [(.int (2 : Int32)), (.ref a), (.int (1 : Int32)), (.ref li)]))
      obtain ⟨T_77, h_77, X_77, e_77, W_77, st_77⟩ := putF X_76 hx hZ hown (host := "") (Or.inl (hw _ (List.mem_of_getElem? (i := 24) rfl))) Via.refl e_76 F_count_a E_a (Or.inl (hw _ (List.mem_of_getElem? (i := 25) rfl))) (hw _ (List.mem_of_getElem? (i := 2) rfl)) (ty := .int) (by decide) rfl rfl (g := (mkF m 153 #[.val (.ref a), .val (.ref u), .val (.int p2), .val (.int p3), .val (.int s0)] [(.int (2 : Int32)), (.ref a), (.int (1 : Int32)), (.ref li)])) rfl rfl (hb hby d3_153)
      replace E_a := E_a.wr W_77
      replace F_bytes_a := F_bytes_a.other W_77 (Or.inr (slot_ne (Or.inl (hw _ (List.mem_of_getElem? (i := 11) rfl))) (Or.inl (hw _ (List.mem_of_getElem? (i := 25) rfl))) (by decide) (t := (.array .byte)) (t' := .int) (by decide) (by decide)))
      replace F_ends_a := F_ends_a.other W_77 (Or.inr (slot_ne (Or.inl (hw _ (List.mem_of_getElem? (i := 14) rfl))) (Or.inl (hw _ (List.mem_of_getElem? (i := 25) rfl))) (by decide) (t := (.array .int)) (t' := .int) (by decide) (by decide)))
      replace F_lines_a := F_lines_a.other W_77 (Or.inr (slot_ne (Or.inl (hw _ (List.mem_of_getElem? (i := 16) rfl))) (Or.inl (hw _ (List.mem_of_getElem? (i := 25) rfl))) (by decide) (t := (.array .int)) (t' := .int) (by decide) (by decide)))
      replace B_bt := B_bt.other W_77 (Ne.symm ne_a_bt)
      replace A_li := A_li.other W_77 (Ne.symm ne_a_li)
      replace B_u := B_u.other W_77 (Ne.symm ne_a_u)
      replace B_nb := B_nb.other W_77 (Ne.symm ne_a_nb)
      replace A_en := A_en.other W_77 (Ne.symm ne_a_en)
      replace lt_a := Nat.lt_of_lt_of_le lt_a (Keep.of_wr W_77).1
      replace lt_bt := Nat.lt_of_lt_of_le lt_bt (Keep.of_wr W_77).1
      replace lt_en := Nat.lt_of_lt_of_le lt_en (Keep.of_wr W_77).1
      replace lt_li := Nat.lt_of_lt_of_le lt_li (Keep.of_wr W_77).1
      replace lt_u := Nat.lt_of_lt_of_le lt_u (Keep.of_wr W_77).1
      replace lt_nb := Nat.lt_of_lt_of_le lt_nb (Keep.of_wr W_77).1
      replace Zs := Nat.le_trans Zs (Keep.of_wr W_77).1
      replace Kp := Kp.wr W_77 (Or.inl (by simp))
      replace F_count_a := F_count_a.same W_77
      replace Nf := Fr.snoc X_77 Nf g_a
      refine Win.go st_77 ?_
      clear st_77 W_77 X_76 e_76
      show Win p.tables e below _ (T_77.setTop (mkF m 156 #[.val (.ref a), .val (.ref u), .val (.int p2), .val (.int p3), .val (.int s0)] [(.int (1 : Int32)), (.ref li)]))
      refine s_iloadN (pc' := 157) X_77.here hx (hb hby d3_156) rfl rfl ?_
      obtain ⟨cl_78, Ar_78, S_78, G_78⟩ := id A_li
      have hb_78 : 0 ≤ ((1 : Int32)).toInt ∧ ((1 : Int32)).toInt < 16 := by decide
      obtain ⟨T_78, h_78, X_78, e_78, W_78, st_78⟩ := stI X_77 hx hZ e_77 Ar_78 (j := (1 : Int32)) (AF.inb S_78 hb_78) (g := (mkF m 157 #[.val (.ref a), .val (.ref u), .val (.int p2), .val (.int p3), .val (.int s0)] [(.int p3), (.int (1 : Int32)), (.ref li)])) rfl rfl (hb hby d3_157)
      have A_78 : AF Z h_78 li .int 16 (updF lf (1 : Int) p3) := AF.set Ar_78 S_78 G_78 W_78 hb_78
      replace E_a := E_a.wr W_78
      replace F_bytes_a := F_bytes_a.other W_78 (Or.inl ne_a_li)
      replace F_ends_a := F_ends_a.other W_78 (Or.inl ne_a_li)
      replace F_lines_a := F_lines_a.other W_78 (Or.inl ne_a_li)
      replace F_count_a := F_count_a.other W_78 (Or.inl ne_a_li)
      replace B_bt := B_bt.other W_78 ne_bt_li
      replace B_u := B_u.other W_78 (Ne.symm ne_li_u)
      replace B_nb := B_nb.other W_78 (Ne.symm ne_li_nb)
      replace A_en := A_en.other W_78 ne_en_li
      replace lt_a := Nat.lt_of_lt_of_le lt_a (Keep.of_wr W_78).1
      replace lt_bt := Nat.lt_of_lt_of_le lt_bt (Keep.of_wr W_78).1
      replace lt_en := Nat.lt_of_lt_of_le lt_en (Keep.of_wr W_78).1
      replace lt_li := Nat.lt_of_lt_of_le lt_li (Keep.of_wr W_78).1
      replace lt_u := Nat.lt_of_lt_of_le lt_u (Keep.of_wr W_78).1
      replace lt_nb := Nat.lt_of_lt_of_le lt_nb (Keep.of_wr W_78).1
      replace Zs := Nat.le_trans Zs (Keep.of_wr W_78).1
      replace Kp := Kp.wr W_78 (Or.inl (by simp))
      replace A_li := A_78
      replace Nf := Fr.snoc X_78 Nf g_li
      refine Win.go st_78 ?_
      clear st_78 W_78 A_78 Ar_78 S_78 G_78 hb_78 X_77 e_77
      show Win p.tables e below _ (T_78.setTop (mkF m 158 #[.val (.ref a), .val (.ref u), .val (.int p2), .val (.int p3), .val (.int s0)] []))
      refine winV X_78 hx hlk e_78 Bd.returns (hb hby d3_158) (by decide) (by decide) ?_
      exact ⟨Nf, Kp, ⟨nb, gl, g_nb, (Ne.symm ne_en_nb), (Ne.symm ne_li_nb), (Ne.symm ne_a_nb), (Ne.symm ne_u_nb), own_lf_1 hp hS hsp hgl, F_bytes_a, F_ends_a, F_lines_a, F_count_a, B_nb, (by rw [hs0]; exact A_en), A_li⟩, rfl⟩
    · skip
      refine s_icmpYes (pc' := 64) X_59.here hx (hb hby d3_38) (fltI (x := z) (y := (s0 + p2)) hc38).2.2.2 (by decide) (by decide) ?_
      refine s_aloadN (pc' := 65) X_59.here hx (hb hby d3_64) rfl rfl rfl ?_
      obtain ⟨T_79, X_79, e_79, st_79⟩ := getF X_59 hx hZ hown (host := "") (Or.inl (hw _ (List.mem_of_getElem? (i := 24) rfl))) Via.refl e_59 F_count_a (g := (mkF m 65 #[.val (.ref a), .val (.ref u), .val (.int p2), .val (.int p3), .val (.int s0)] [(.ref a)])) rfl rfl (hb hby d3_65)
      refine Win.go st_79 ?_
      clear st_79 X_59 e_59
      show Win p.tables e below _ (T_79.setTop (mkF m 68 #[.val (.ref a), .val (.ref u), .val (.int p2), .val (.int p3), .val (.int s0)] [(.int (1 : Int32))]))
      refine s_aloadN (pc' := 69) X_79.here hx (hb hby d3_68) rfl rfl rfl ?_
      obtain ⟨T_80, X_80, e_80, st_80⟩ := getF X_79 hx hZ hown (host := "") (Or.inl (hw _ (List.mem_of_getElem? (i := 13) rfl))) Via.refl e_79 F_ends_a (g := (mkF m 69 #[.val (.ref a), .val (.ref u), .val (.int p2), .val (.int p3), .val (.int s0)] [(.ref a), (.int (1 : Int32))])) rfl rfl (hb hby d3_69)
      refine Win.go st_80 ?_
      clear st_80 X_79 e_79
      show Win p.tables e below _ (T_80.setTop (mkF m 72 #[.val (.ref a), .val (.ref u), .val (.int p2), .val (.int p3), .val (.int s0)] [(.ref en), (.int (1 : Int32))]))
      obtain ⟨cl_81, Ar_81, S_81, G_81⟩ := id A_en
      refine Win.go (fun _ k => X_80.arraylength hx (by rw [e_80]; exact Ar_81.1) (State.isArrayOf_alike hZ.alike Ar_81.2.1) (g := (mkF m 72 #[.val (.ref a), .val (.ref u), .val (.int p2), .val (.int p3), .val (.int s0)] [(.ref en), (.int (1 : Int32))])) rfl rfl (hb hby d3_72) _ k) ?_
      rw [S_81]
      clear Ar_81 S_81 G_81
      show Win p.tables e below _ (T_80.setTop (mkF m 73 #[.val (.ref a), .val (.ref u), .val (.int p2), .val (.int p3), .val (.int s0)] [(.int (16 : Int32)), (.int (1 : Int32))]))
      refine s_icmpYes (pc' := 116) X_80.here hx (hb hby d3_73) (feqI (x := (1 : Int32)) (y := (16 : Int32)) (by decide)).2 (by decide) (by decide) ?_
      refine s_aloadN (pc' := 117) X_80.here hx (hb hby d3_116) rfl rfl rfl ?_
      refine s_iconst (pc' := 118) (z := (0 : Int32)) X_80.here hx (hb hby d3_117) rfl rfl ?_
      refine s_aloadN (pc' := 119) X_80.here hx (hb hby d3_118) rfl rfl rfl ?_
      obtain ⟨T_82, X_82, e_82, st_82⟩ := getF X_80 hx hZ hown (host := "") (Or.inl (hw _ (List.mem_of_getElem? (i := 10) rfl))) Via.refl e_80 F_bytes_a (g := (mkF m 119 #[.val (.ref a), .val (.ref u), .val (.int p2), .val (.int p3), .val (.int s0)] [(.ref a), (.int (0 : Int32)), (.ref u)])) rfl rfl (hb hby d3_119)
      refine Win.go st_82 ?_
      clear st_82 X_80 e_80
      show Win p.tables e below _ (T_82.setTop (mkF m 122 #[.val (.ref a), .val (.ref u), .val (.int p2), .val (.int p3), .val (.int s0)] [(.ref bt), (.int (0 : Int32)), (.ref u)]))
      refine s_iload (pc' := 124) X_82.here hx (hb hby d3_122) rfl rfl ?_
      refine s_iloadN (pc' := 125) X_82.here hx (hb hby d3_124) rfl rfl ?_
      obtain ⟨T_83, h_83, L_83, X_83, e_83, Nf', K_83, B_83, st_83⟩ := cpBA X_82 hx hZ hown (hw _ (List.mem_of_getElem? (i := 32) rfl)) (hw _ (List.mem_of_getElem? (i := 35) rfl)) (hw _ (List.mem_of_getElem? (i := 33) rfl)) (hw _ (List.mem_of_getElem? (i := 34) rfl)) e_82 B_u B_bt (by decide) (by exact hS.1) (by exact hp.1) (by exact own_c4 hp.2.1) (by first | exact Int.le_trans (Int.le_of_eq hsp.symm) hgl.2.1 | exact Int.le_trans (Int.le_of_eq hsp.symm) (Int.not_lt.mp hc38)) Nf g_bt (g := (mkF m 125 #[.val (.ref a), .val (.ref u), .val (.int p2), .val (.int p3), .val (.int s0)] [(.int p2), (.int s0), (.ref bt), (.int (0 : Int32)), (.ref u)])) rfl (by rw [hml]; rfl) rfl (hb hby d3_125) (by decide) (W := 0) (by show 2 * 0 + _ ≤ _; exact Nat.le_of_eq rfl) (by decide)
      replace E_a := E_a.keep K_83
      replace F_bytes_a := F_bytes_a.keep K_83 (ninS ne_a_bt nin0)
      replace F_ends_a := F_ends_a.keep K_83 (ninS ne_a_bt nin0)
      replace F_lines_a := F_lines_a.keep K_83 (ninS ne_a_bt nin0)
      replace F_count_a := F_count_a.keep K_83 (ninS ne_a_bt nin0)
      replace A_en := A_en.keep K_83 (ninS (Ne.symm ne_bt_en) nin0)
      replace A_li := A_li.keep K_83 (ninS (Ne.symm ne_bt_li) nin0)
      replace B_u := B_u.keep K_83 (ninS (Ne.symm ne_bt_u) nin0)
      replace lt_a := Nat.lt_of_lt_of_le lt_a K_83.1
      replace lt_bt := Nat.lt_of_lt_of_le lt_bt K_83.1
      replace lt_en := Nat.lt_of_lt_of_le lt_en K_83.1
      replace lt_li := Nat.lt_of_lt_of_le lt_li K_83.1
      replace lt_u := Nat.lt_of_lt_of_le lt_u K_83.1
      replace Zs := Nat.le_trans Zs K_83.1
      replace Kp := Kp.trans K_83 (allS (Or.inl (by simp)) all0)
      replace B_bt := B_83
      replace Nf := Nf'
      refine Win.go st_83 ?_
      show Win p.tables e below _ (T_83.setTop (mkF m 128 #[.val (.ref a), .val (.ref u), .val (.int p2), .val (.int p3), .val (.int s0)] []))
      refine s_aloadN (pc' := 129) X_83.here hx (hb hby d3_128) rfl rfl rfl ?_
      obtain ⟨T_84, X_84, e_84, st_84⟩ := getF X_83 hx hZ hown (host := "") (Or.inl (hw _ (List.mem_of_getElem? (i := 13) rfl))) Via.refl e_83 F_ends_a (g := (mkF m 129 #[.val (.ref a), .val (.ref u), .val (.int p2), .val (.int p3), .val (.int s0)] [(.ref a)])) rfl rfl (hb hby d3_129)
      refine Win.go st_84 ?_
      clear st_84 X_83 e_83
      show Win p.tables e below _ (T_84.setTop (mkF m 132 #[.val (.ref a), .val (.ref u), .val (.int p2), .val (.int p3), .val (.int s0)] [(.ref en)]))
      refine s_aloadN (pc' := 133) X_84.here hx (hb hby d3_132) rfl rfl rfl ?_
      obtain ⟨T_85, X_85, e_85, st_85⟩ := getF X_84 hx hZ hown (host := "") (Or.inl (hw _ (List.mem_of_getElem? (i := 24) rfl))) Via.refl e_84 F_count_a (g := (mkF m 133 #[.val (.ref a), .val (.ref u), .val (.int p2), .val (.int p3), .val (.int s0)] [(.ref a), (.ref en)])) rfl rfl (hb hby d3_133)
      refine Win.go st_85 ?_
      clear st_85 X_84 e_84
      show Win p.tables e below _ (T_85.setTop (mkF m 136 #[.val (.ref a), .val (.ref u), .val (.int p2), .val (.int p3), .val (.int s0)] [(.int (1 : Int32)), (.ref en)]))
      refine s_iload (pc' := 138) X_85.here hx (hb hby d3_136) rfl rfl ?_
      refine s_iloadN (pc' := 139) X_85.here hx (hb hby d3_138) rfl rfl ?_
      refine s_iadd (pc' := 140) X_85.here hx (hb hby d3_139) rfl ?_
      obtain ⟨cl_86, Ar_86, S_86, G_86⟩ := id A_en
      have hb_86 : 0 ≤ ((1 : Int32)).toInt ∧ ((1 : Int32)).toInt < 16 := by decide
      obtain ⟨T_86, h_86, X_86, e_86, W_86, st_86⟩ := stI X_85 hx hZ e_85 Ar_86 (j := (1 : Int32)) (AF.inb S_86 hb_86) (g := (mkF m 140 #[.val (.ref a), .val (.ref u), .val (.int p2), .val (.int p3), .val (.int s0)] [(.int (s0 + p2)), (.int (1 : Int32)), (.ref en)])) rfl rfl (hb hby d3_140)
      have A_86 : AF Z h_86 en .int 16 (updF ef (1 : Int) (s0 + p2)) := AF.set Ar_86 S_86 G_86 W_86 hb_86
      replace E_a := E_a.wr W_86
      replace F_bytes_a := F_bytes_a.other W_86 (Or.inl ne_a_en)
      replace F_ends_a := F_ends_a.other W_86 (Or.inl ne_a_en)
      replace F_lines_a := F_lines_a.other W_86 (Or.inl ne_a_en)
      replace F_count_a := F_count_a.other W_86 (Or.inl ne_a_en)
      replace A_li := A_li.other W_86 (Ne.symm ne_en_li)
      replace B_u := B_u.other W_86 (Ne.symm ne_en_u)
      replace B_bt := B_bt.other W_86 ne_bt_en
      replace lt_a := Nat.lt_of_lt_of_le lt_a (Keep.of_wr W_86).1
      replace lt_bt := Nat.lt_of_lt_of_le lt_bt (Keep.of_wr W_86).1
      replace lt_en := Nat.lt_of_lt_of_le lt_en (Keep.of_wr W_86).1
      replace lt_li := Nat.lt_of_lt_of_le lt_li (Keep.of_wr W_86).1
      replace lt_u := Nat.lt_of_lt_of_le lt_u (Keep.of_wr W_86).1
      replace Zs := Nat.le_trans Zs (Keep.of_wr W_86).1
      replace Kp := Kp.wr W_86 (Or.inl (by simp))
      replace A_en := A_86
      replace Nf := Fr.snoc X_86 Nf g_en
      refine Win.go st_86 ?_
      clear st_86 W_86 A_86 Ar_86 S_86 G_86 hb_86 X_85 e_85
      show Win p.tables e below _ (T_86.setTop (mkF m 141 #[.val (.ref a), .val (.ref u), .val (.int p2), .val (.int p3), .val (.int s0)] []))
      refine s_aloadN (pc' := 142) X_86.here hx (hb hby d3_141) rfl rfl rfl ?_
      obtain ⟨T_87, X_87, e_87, st_87⟩ := getF X_86 hx hZ hown (host := "") (Or.inl (hw _ (List.mem_of_getElem? (i := 15) rfl))) Via.refl e_86 F_lines_a (g := (mkF m 142 #[.val (.ref a), .val (.ref u), .val (.int p2), .val (.int p3), .val (.int s0)] [(.ref a)])) rfl rfl (hb hby d3_142)
      refine Win.go st_87 ?_
      clear st_87 X_86 e_86
      show Win p.tables e below _ (T_87.setTop (mkF m 145 #[.val (.ref a), .val (.ref u), .val (.int p2), .val (.int p3), .val (.int s0)] [(.ref li)]))
      refine s_aloadN (pc' := 146) X_87.here hx (hb hby d3_145) rfl rfl rfl ?_
      refine s_dup (pc' := 147) X_87.here hx (hb hby d3_146) rfl rfl ?_
      obtain ⟨T_88, X_88, e_88, st_88⟩ := getF X_87 hx hZ hown (host := "") (Or.inl (hw _ (List.mem_of_getElem? (i := 24) rfl))) Via.refl e_87 F_count_a (g := (mkF m 147 #[.val (.ref a), .val (.ref u), .val (.int p2), .val (.int p3), .val (.int s0)] [(.ref a), (.ref a), (.ref li)])) rfl rfl (hb hby d3_147)
      refine Win.go st_88 ?_
      clear st_88 X_87 e_87
      show Win p.tables e below _ (T_88.setTop (mkF m 150 #[.val (.ref a), .val (.ref u), .val (.int p2), .val (.int p3), .val (.int s0)] [(.int (1 : Int32)), (.ref a), (.ref li)]))
      refine Win.go (fun _ k => XS.dupX1 X_88.here hx rfl (hb hby d3_150) rfl rfl rfl k) ?_
      show Win p.tables e below _ (T_88.setTop (mkF m 151 #[.val (.ref a), .val (.ref u), .val (.int p2), .val (.int p3), .val (.int s0)] [(.int (1 : Int32)), (.ref a), (.int (1 : Int32)), (.ref li)]))
      refine s_iconst (pc' := 152) (z := (1 : Int32)) X_88.here hx (hb hby d3_151) rfl rfl ?_
      refine Win.go (fun _ k => XS.iadd X_88.here hx rfl (hb hby d3_152) rfl k) ?_
      show Win p.tables e below _ (T_88.setTop (mkF m 153 #[.val (.ref a), .val (.ref u), .val (.int p2), .val (.int p3), .val (.int s0)] [(.int (2 : Int32)), (.ref a), (.int (1 : Int32)), (.ref li)]))
      obtain ⟨T_89, h_89, X_89, e_89, W_89, st_89⟩ := putF X_88 hx hZ hown (host := "") (Or.inl (hw _ (List.mem_of_getElem? (i := 24) rfl))) Via.refl e_88 F_count_a E_a (Or.inl (hw _ (List.mem_of_getElem? (i := 25) rfl))) (hw _ (List.mem_of_getElem? (i := 2) rfl)) (ty := .int) (by decide) rfl rfl (g := (mkF m 153 #[.val (.ref a), .val (.ref u), .val (.int p2), .val (.int p3), .val (.int s0)] [(.int (2 : Int32)), (.ref a), (.int (1 : Int32)), (.ref li)])) rfl rfl (hb hby d3_153)
      replace E_a := E_a.wr W_89
      replace F_bytes_a := F_bytes_a.other W_89 (Or.inr (slot_ne (Or.inl (hw _ (List.mem_of_getElem? (i := 11) rfl))) (Or.inl (hw _ (List.mem_of_getElem? (i := 25) rfl))) (by decide) (t := (.array .byte)) (t' := .int) (by decide) (by decide)))
      replace F_ends_a := F_ends_a.other W_89 (Or.inr (slot_ne (Or.inl (hw _ (List.mem_of_getElem? (i := 14) rfl))) (Or.inl (hw _ (List.mem_of_getElem? (i := 25) rfl))) (by decide) (t := (.array .int)) (t' := .int) (by decide) (by decide)))
      replace F_lines_a := F_lines_a.other W_89 (Or.inr (slot_ne (Or.inl (hw _ (List.mem_of_getElem? (i := 16) rfl))) (Or.inl (hw _ (List.mem_of_getElem? (i := 25) rfl))) (by decide) (t := (.array .int)) (t' := .int) (by decide) (by decide)))
      replace A_li := A_li.other W_89 (Ne.symm ne_a_li)
      replace B_u := B_u.other W_89 (Ne.symm ne_a_u)
      replace B_bt := B_bt.other W_89 (Ne.symm ne_a_bt)
      replace A_en := A_en.other W_89 (Ne.symm ne_a_en)
      replace lt_a := Nat.lt_of_lt_of_le lt_a (Keep.of_wr W_89).1
      replace lt_bt := Nat.lt_of_lt_of_le lt_bt (Keep.of_wr W_89).1
      replace lt_en := Nat.lt_of_lt_of_le lt_en (Keep.of_wr W_89).1
      replace lt_li := Nat.lt_of_lt_of_le lt_li (Keep.of_wr W_89).1
      replace lt_u := Nat.lt_of_lt_of_le lt_u (Keep.of_wr W_89).1
      replace Zs := Nat.le_trans Zs (Keep.of_wr W_89).1
      replace Kp := Kp.wr W_89 (Or.inl (by simp))
      replace F_count_a := F_count_a.same W_89
      replace Nf := Fr.snoc X_89 Nf g_a
      refine Win.go st_89 ?_
      clear st_89 W_89 X_88 e_88
      show Win p.tables e below _ (T_89.setTop (mkF m 156 #[.val (.ref a), .val (.ref u), .val (.int p2), .val (.int p3), .val (.int s0)] [(.int (1 : Int32)), (.ref li)]))
      refine s_iloadN (pc' := 157) X_89.here hx (hb hby d3_156) rfl rfl ?_
      obtain ⟨cl_90, Ar_90, S_90, G_90⟩ := id A_li
      have hb_90 : 0 ≤ ((1 : Int32)).toInt ∧ ((1 : Int32)).toInt < 16 := by decide
      obtain ⟨T_90, h_90, X_90, e_90, W_90, st_90⟩ := stI X_89 hx hZ e_89 Ar_90 (j := (1 : Int32)) (AF.inb S_90 hb_90) (g := (mkF m 157 #[.val (.ref a), .val (.ref u), .val (.int p2), .val (.int p3), .val (.int s0)] [(.int p3), (.int (1 : Int32)), (.ref li)])) rfl rfl (hb hby d3_157)
      have A_90 : AF Z h_90 li .int 16 (updF lf (1 : Int) p3) := AF.set Ar_90 S_90 G_90 W_90 hb_90
      replace E_a := E_a.wr W_90
      replace F_bytes_a := F_bytes_a.other W_90 (Or.inl ne_a_li)
      replace F_ends_a := F_ends_a.other W_90 (Or.inl ne_a_li)
      replace F_lines_a := F_lines_a.other W_90 (Or.inl ne_a_li)
      replace F_count_a := F_count_a.other W_90 (Or.inl ne_a_li)
      replace B_u := B_u.other W_90 (Ne.symm ne_li_u)
      replace B_bt := B_bt.other W_90 ne_bt_li
      replace A_en := A_en.other W_90 ne_en_li
      replace lt_a := Nat.lt_of_lt_of_le lt_a (Keep.of_wr W_90).1
      replace lt_bt := Nat.lt_of_lt_of_le lt_bt (Keep.of_wr W_90).1
      replace lt_en := Nat.lt_of_lt_of_le lt_en (Keep.of_wr W_90).1
      replace lt_li := Nat.lt_of_lt_of_le lt_li (Keep.of_wr W_90).1
      replace lt_u := Nat.lt_of_lt_of_le lt_u (Keep.of_wr W_90).1
      replace Zs := Nat.le_trans Zs (Keep.of_wr W_90).1
      replace Kp := Kp.wr W_90 (Or.inl (by simp))
      replace A_li := A_90
      replace Nf := Fr.snoc X_90 Nf g_li
      refine Win.go st_90 ?_
      clear st_90 W_90 A_90 Ar_90 S_90 G_90 hb_90 X_89 e_89
      show Win p.tables e below _ (T_90.setTop (mkF m 158 #[.val (.ref a), .val (.ref u), .val (.int p2), .val (.int p3), .val (.int s0)] []))
      refine winV X_90 hx hlk e_90 Bd.returns (hb hby d3_158) (by decide) (by decide) ?_
      exact ⟨Nf, Kp, ⟨bt, z, g_bt, ne_bt_en, ne_bt_li, (Ne.symm ne_a_bt), ne_bt_u, ⟨hp.2.2.1, Int.le_trans hp.2.2.2 (by decide)⟩, F_bytes_a, F_ends_a, F_lines_a, F_count_a, B_bt, (by rw [hs0]; exact A_en), A_li⟩, rfl⟩
theorem ef_3_2 (m : MethodId) (a : Addr) (u : Addr) (p2 : Int32) (p3 : Int32) : entryFrame m #[(.ref a), (.ref u), (.int p2), (.int p3)] 5 = mkF m 0 #[.val (.ref a), .val (.ref u), .val (.int p2), .val (.int p3), .unset] [] := by first | (simp [entryFrame, mkF, argsToLocals, Value.category]; done) | rfl
def Q3_2 (Z : State) (a : Addr) (u : Addr) (p2 : Int32) (p3 : Int32) (bt : Addr) (en : Addr) (li : Addr) (z : Int32) (ef : Int → Int32) (lf : Int → Int32) (h0 : Heap) (n0 : Nat) (v : Option Value) (h : Heap) (L : List Loc) : Prop := Fr n0 L ∧ Keep h0 h [a, bt, en, li] ∧ (∃ (bt2 : Addr) (z2 : Int32), (n0 ≤ bt2) ∧ (bt2 ≠ en) ∧ (bt2 ≠ li) ∧ (bt2 ≠ a) ∧ (bt2 ≠ u) ∧ (16 ≤ z2.toInt ∧ z2.toInt ≤ 128) ∧ (Fld Z h a "com/example/nearstable/nearstable/files/StringBatch" "bytes" "[B" (.ref bt2)) ∧ (Fld Z h a "com/example/nearstable/nearstable/files/StringBatch" "ends" "[I" (.ref en)) ∧ (Fld Z h a "com/example/nearstable/nearstable/files/StringBatch" "lines" "[I" (.ref li)) ∧ (Fld Z h a "com/example/nearstable/nearstable/files/StringBatch" "count" "I" (.int (3 : Int32))) ∧ (BA Z h bt2 z2) ∧ (AF Z h en .int 16 (updF ef (2 : Int) ((ef (1 : Int)) + p2))) ∧ (AF Z h li .int 16 (updF lf (2 : Int) p3))) ∧ v = none
set_option maxRecDepth 65536 in
set_option maxHeartbeats 40000000 in
theorem rm3_2 (l : Launch) (Z : State) (a0 : Array Value) (hw : ∀ d ∈ tables_1, d.before a0 Z = true) (ws : List Jvm.Cond) (a : Addr) (u : Addr) (p2 : Int32) (p3 : Int32) (bt : Addr) (en : Addr) (li : Addr) (z : Int32) (ef : Int → Int32) (lf : Int → Int32) (h0 : Heap) (n0 : Nat) (Zs : n0 ≤ h0.size) (E_a : Exa Z h0 a "com/example/nearstable/nearstable/files/StringBatch") (F_bytes_a : Fld Z h0 a "com/example/nearstable/nearstable/files/StringBatch" "bytes" "[B" (.ref bt)) (F_ends_a : Fld Z h0 a "com/example/nearstable/nearstable/files/StringBatch" "ends" "[I" (.ref en)) (F_lines_a : Fld Z h0 a "com/example/nearstable/nearstable/files/StringBatch" "lines" "[I" (.ref li)) (F_count_a : Fld Z h0 a "com/example/nearstable/nearstable/files/StringBatch" "count" "I" (.int (2 : Int32))) (B_bt : BA Z h0 bt z) (A_en : AF Z h0 en .int 16 ef) (A_li : AF Z h0 li .int 16 lf) (B_u : BA Z h0 u (32 : Int32)) (g_a : n0 ≤ a) (g_bt : n0 ≤ bt) (g_en : n0 ≤ en) (g_li : n0 ≤ li) (ne_a_bt : a ≠ bt) (ne_a_en : a ≠ en) (ne_a_li : a ≠ li) (ne_a_u : a ≠ u) (ne_bt_en : bt ≠ en) (ne_bt_li : bt ≠ li) (ne_bt_u : bt ≠ u) (ne_en_li : en ≠ li) (ne_en_u : en ≠ u) (ne_li_u : li ≠ u) (hp : 0 ≤ p2.toInt ∧ p2.toInt ≤ 31 ∧ 16 ≤ z.toInt ∧ z.toInt ≤ 64) (hq : 0 ≤ (ef (1 : Int)).toInt ∧ (ef (1 : Int)).toInt ≤ 62) :
    MetFree l (⟨"com/example/nearstable/nearstable/files/StringBatch", "add", "([BII)V"⟩ : MethodName) (head1 (Jvm.Cond.code (⟨"com/example/nearstable/nearstable/files/StringBatch", "add", "([BII)V"⟩ : MethodName) prog_38_method_5_code 5 none :: ws) ({ frames := 2, cells := 1, slots := 128, locals := 55 } : Room)) (fun as' U => as' = #[(.ref a), (.ref u), (.int p2), (.int p3)] ∧ Z.Warmed39 U.vm ∧ U.heap = h0) (fun _ _ _ _ _ => True) (fun _ U o U' => ∃ v L, o = .returned v ∧ Q3_2 Z a u p2 p3 bt en li z ef lf h0 n0 v U'.heap L ∧ FrameEnd U o U' L ({ frames := 2, cells := 1, slots := 128, locals := 55 } : Room).cells ({ frames := 2, cells := 1, slots := 128, locals := 55 } : Room).slots) := by
  refine MetFree.of_bodySF (plainFor_of_name pn_1) hisR ?_
  intro p e s m args below meth c s₁ Bd hml0 hP hK
  obtain ⟨rfl, hZ, hh⟩ := hP
  have hx := Bd.exec
  have hby := Bd.bytes
  have hml : c.maxLocals = 5 := hml0
  have hown : s.vm.findClass "com/example/nearstable/nearstable/files/StringBatch" = some m.cls := findClass_of_methodNamed Bd.named
  have hnm := (name_of_methodNamed Bd.named Bd.method).1
  have hlk : meth.locks = false := Bd.notSynchronized
  have X0 : Stand p l e ({ frames := 2, cells := 1, slots := 128, locals := 55 } : Room) s m #[(.ref a), (.ref u), (.int p2), (.int p3)] below meth c s₁ [] 0 0 := Stand.of_body Bd
  have e0 : s₁.heap = h0 := by rw [← hh, Bd.state]; rfl
  have Nf := Fr.nil n0
  refine (?_ : Win p.tables e below (PostQ s (Q3_2 Z a u p2 p3 bt en li z ef lf h0 n0) ({ frames := 2, cells := 1, slots := 128, locals := 55 } : Room).cells ({ frames := 2, cells := 1, slots := 128, locals := 55 } : Room).slots) (s₁.setTop (entryFrame m #[(.ref a), (.ref u), (.int p2), (.int p3)] 5)))
  rw [ef_3_2]
  have Kp : Keep h0 h0 [a, bt, en, li] := Keep.refl h0 _
  have lt_a : a < h0.size := E_a.lt
  have lt_bt : bt < h0.size := B_bt.lt
  have lt_en : en < h0.size := A_en.lt
  have lt_li : li < h0.size := A_li.lt
  have lt_u : u < h0.size := B_u.lt
  show Win p.tables e below _ (s₁.setTop (mkF m 0 #[.val (.ref a), .val (.ref u), .val (.int p2), .val (.int p3), .unset] []))
  refine s_aloadN (pc' := 1) X0.here hx (hb hby d3_0) rfl rfl rfl ?_
  refine s_aloadN (pc' := 2) X0.here hx (hb hby d3_1) rfl rfl rfl ?_
  obtain ⟨T_91, X_91, e_91, st_91⟩ := getF X0 hx hZ hown (host := "") (Or.inl (hw _ (List.mem_of_getElem? (i := 24) rfl))) Via.refl e0 F_count_a (g := (mkF m 2 #[.val (.ref a), .val (.ref u), .val (.int p2), .val (.int p3), .unset] [(.ref a), (.ref a)])) rfl rfl (hb hby d3_2)
  refine Win.go st_91 ?_
  clear st_91 X0 e0
  show Win p.tables e below _ (T_91.setTop (mkF m 5 #[.val (.ref a), .val (.ref u), .val (.int p2), .val (.int p3), .unset] [(.int (2 : Int32)), (.ref a)]))
  obtain ⟨cq_92, kq_92, q_92a, q_92b, q_92c⟩ := isOf hZ e_91 E_a
  obtain ⟨_, _, ⟨T_92, L_92, k_92, n_92⟩, -, X_92, ⟨Lc_92, hQ_92, l_92, y_92, z_92⟩, st_92⟩ := X_91.virtualBack hx (y := (⟨"com/example/nearstable/nearstable/files/StringBatch", "start", "(I)I"⟩ : MethodName)) (z := (⟨"com/example/nearstable/nearstable/files/StringBatch", "start", "(I)I"⟩ : MethodName)) hown (mvT hZ (hw _ (List.mem_of_getElem? (i := 26) rfl))) (mvT hZ (hw _ (List.mem_of_getElem? (i := 27) rfl))) (notFace_of_selects (args := #[]) (mvT hZ (hw _ (List.mem_of_getElem? (i := 29) rfl)))) (mvT hZ (hw _ (List.mem_of_getElem? (i := 29) rfl))) (mvT hZ (hw _ (List.mem_of_getElem? (i := 28) rfl))) (by decide) (backOf (W := 0) (rm4_2 l Z a0 hw [] a en ef h0 n0 Zs F_ends_a A_en) hZ (hw _ (List.mem_of_getElem? (i := 30) rfl)) (hw _ (List.mem_of_getElem? (i := 3) rfl)) (by decide) (by decide)) q_92a q_92c (g := (mkF m 5 #[.val (.ref a), .val (.ref u), .val (.int p2), .val (.int p3), .unset] [(.int (2 : Int32)), (.ref a)])) rfl (by rw [hml]; rfl) (Steps.refl _) (argsL := [(.int (2 : Int32))]) (rest := []) (lenOf pd_2 rfl) rfl (by show 2 * 0 + _ ≤ _; exact Nat.le_of_eq rfl) (hb hby d3_5) (fun _ _ => ⟨rfl, e_91, (by decide : 0 + 0 ≤ _), (by decide : 0 + 0 ≤ _)⟩)
  dsimp only [Pt.U, Pt.locs, Pt.cells, Pt.slots] at X_92 l_92 y_92 z_92 st_92 hQ_92
  subst l_92 y_92 z_92
  obtain ⟨Nq_92, e_92, rfl⟩ := hQ_92
  replace Nf := Fr.app Nf Nq_92
  refine Win.come st_92 ?_
  clear st_92 Nq_92 X_91 e_91
  show Win p.tables e below _ (T_92.setTop (mkF m 8 #[.val (.ref a), .val (.ref u), .val (.int p2), .val (.int p3), .unset] [(.int (ef (1 : Int)))]))
  refine s_istore (pc' := 10) (l' := #[.val (.ref a), .val (.ref u), .val (.int p2), .val (.int p3), .val (.int (ef (1 : Int)))]) X_92.here hx (hb hby d3_8) rfl rfl ?_
  generalize hs0 : (ef (1 : Int)) = s0
  show Win p.tables e below _ (T_92.setTop (mkF m 10 #[.val (.ref a), .val (.ref u), .val (.int p2), .val (.int p3), .val (.int s0)] []))
  rw [hs0] at hq
  have hS := hq
  have hsp := own_sp ⟨hS.1, Int.le_trans hS.2 (by decide)⟩ hp.1 hp.2.1
  refine s_iloadN (pc' := 11) X_92.here hx (hb hby d3_10) rfl rfl ?_
  refine Win.go (fun _ k => X_92.ldcInt hx hown (mvT hZ (hw _ (List.mem_of_getElem? (i := 31) rfl))) (g := (mkF m 11 #[.val (.ref a), .val (.ref u), .val (.int p2), .val (.int p3), .val (.int s0)] [(.int p2)])) rfl (hb hby d3_11) _ k) ?_
  show Win p.tables e below _ (T_92.setTop (mkF m 13 #[.val (.ref a), .val (.ref u), .val (.int p2), .val (.int p3), .val (.int s0)] [(.int (2147483639 : Int32)), (.int p2)]))
  refine s_iload (pc' := 15) X_92.here hx (hb hby d3_13) rfl rfl ?_
  refine s_isub (pc' := 16) X_92.here hx (hb hby d3_15) rfl ?_
  by_cases hc16 : (((2147483639 : Int32) - s0)).toInt < (p2).toInt
  · skip
    exfalso
    exact own_mx ⟨hS.1, Int.le_trans hS.2 (by decide)⟩ hp.2.1 hc16
  · skip
    refine s_icmpYes (pc' := 29) X_92.here hx (hb hby d3_16) (fltI (x := ((2147483639 : Int32) - s0)) (y := p2) hc16).2.2.2 (by decide) (by decide) ?_
    refine s_iload (pc' := 31) X_92.here hx (hb hby d3_29) rfl rfl ?_
    refine s_iloadN (pc' := 32) X_92.here hx (hb hby d3_31) rfl rfl ?_
    refine s_iadd (pc' := 33) X_92.here hx (hb hby d3_32) rfl ?_
    refine s_aloadN (pc' := 34) X_92.here hx (hb hby d3_33) rfl rfl rfl ?_
    obtain ⟨T_93, X_93, e_93, st_93⟩ := getF X_92 hx hZ hown (host := "") (Or.inl (hw _ (List.mem_of_getElem? (i := 10) rfl))) Via.refl e_92 F_bytes_a (g := (mkF m 34 #[.val (.ref a), .val (.ref u), .val (.int p2), .val (.int p3), .val (.int s0)] [(.ref a), (.int (s0 + p2))])) rfl rfl (hb hby d3_34)
    refine Win.go st_93 ?_
    clear st_93 X_92 e_92
    show Win p.tables e below _ (T_93.setTop (mkF m 37 #[.val (.ref a), .val (.ref u), .val (.int p2), .val (.int p3), .val (.int s0)] [(.ref bt), (.int (s0 + p2))]))
    obtain ⟨k_94, vs_94, cl_94, Ar_94, q_94, S_94, N_94, H_94, G_94⟩ := id B_bt
    refine Win.go (fun _ k => X_93.arraylength hx (by rw [e_93]; exact Ar_94.1) (State.isArrayOf_alike hZ.alike Ar_94.2.1) (g := (mkF m 37 #[.val (.ref a), .val (.ref u), .val (.int p2), .val (.int p3), .val (.int s0)] [(.ref bt), (.int (s0 + p2))])) rfl rfl (hb hby d3_37) _ k) ?_
    rw [len_of S_94 N_94]
    clear Ar_94 q_94 S_94 N_94 H_94 G_94
    show Win p.tables e below _ (T_93.setTop (mkF m 38 #[.val (.ref a), .val (.ref u), .val (.int p2), .val (.int p3), .val (.int s0)] [(.int z), (.int (s0 + p2))]))
    by_cases hc38 : (z).toInt < ((s0 + p2)).toInt
    · skip
      refine s_icmpNo (pc' := 41) X_93.here hx (hb hby d3_38) rfl (tltI (x := z) (y := (s0 + p2)) hc38).2.2.2 ?_
      refine s_aloadN (pc' := 42) X_93.here hx (hb hby d3_41) rfl rfl rfl ?_
      refine s_aloadN (pc' := 43) X_93.here hx (hb hby d3_42) rfl rfl rfl ?_
      obtain ⟨T_95, X_95, e_95, st_95⟩ := getF X_93 hx hZ hown (host := "") (Or.inl (hw _ (List.mem_of_getElem? (i := 10) rfl))) Via.refl e_93 F_bytes_a (g := (mkF m 43 #[.val (.ref a), .val (.ref u), .val (.int p2), .val (.int p3), .val (.int s0)] [(.ref a), (.ref a)])) rfl rfl (hb hby d3_43)
      refine Win.go st_95 ?_
      clear st_95 X_93 e_93
      show Win p.tables e below _ (T_95.setTop (mkF m 46 #[.val (.ref a), .val (.ref u), .val (.int p2), .val (.int p3), .val (.int s0)] [(.ref bt), (.ref a)]))
      refine s_aloadN (pc' := 47) X_95.here hx (hb hby d3_46) rfl rfl rfl ?_
      obtain ⟨T_96, X_96, e_96, st_96⟩ := getF X_95 hx hZ hown (host := "") (Or.inl (hw _ (List.mem_of_getElem? (i := 10) rfl))) Via.refl e_95 F_bytes_a (g := (mkF m 47 #[.val (.ref a), .val (.ref u), .val (.int p2), .val (.int p3), .val (.int s0)] [(.ref a), (.ref bt), (.ref a)])) rfl rfl (hb hby d3_47)
      refine Win.go st_96 ?_
      clear st_96 X_95 e_95
      show Win p.tables e below _ (T_96.setTop (mkF m 50 #[.val (.ref a), .val (.ref u), .val (.int p2), .val (.int p3), .val (.int s0)] [(.ref bt), (.ref bt), (.ref a)]))
      obtain ⟨k_97, vs_97, cl_97, Ar_97, q_97, S_97, N_97, H_97, G_97⟩ := id B_bt
      refine Win.go (fun _ k => X_96.arraylength hx (by rw [e_96]; exact Ar_97.1) (State.isArrayOf_alike hZ.alike Ar_97.2.1) (g := (mkF m 50 #[.val (.ref a), .val (.ref u), .val (.int p2), .val (.int p3), .val (.int s0)] [(.ref bt), (.ref bt), (.ref a)])) rfl rfl (hb hby d3_50) _ k) ?_
      rw [len_of S_97 N_97]
      clear Ar_97 q_97 S_97 N_97 H_97 G_97
      show Win p.tables e below _ (T_96.setTop (mkF m 51 #[.val (.ref a), .val (.ref u), .val (.int p2), .val (.int p3), .val (.int s0)] [(.int z), (.ref bt), (.ref a)]))
      refine s_iload (pc' := 53) X_96.here hx (hb hby d3_51) rfl rfl ?_
      refine s_iloadN (pc' := 54) X_96.here hx (hb hby d3_53) rfl rfl ?_
      refine s_iadd (pc' := 55) X_96.here hx (hb hby d3_54) rfl ?_
      obtain ⟨_, _, ⟨T_98, L_98, k_98, n_98⟩, -, X_98, ⟨Lc_98, hQ_98, l_98, y_98, z_98⟩, st_98⟩ := Jvm.LawKit.callS X_96 hx (y := (⟨"com/example/nearstable/nearstable/market/Market", "grownLength", "(II)I"⟩ : MethodName)) hown (mvT hZ (hw _ (List.mem_of_getElem? (i := 37) rfl))) (mvT hZ (hw _ (List.mem_of_getElem? (i := 38) rfl))) (mvT hZ (hw _ (List.mem_of_getElem? (i := 39) rfl))) (mvT hZ (hw _ (List.mem_of_getElem? (i := 40) rfl))) (by decide) (backOf (W := 2) (rm5 l Z a0 hw [] z (s0 + p2) h0 n0 Zs (own_gp_2 hp hS hsp)) hZ (hw _ (List.mem_of_getElem? (i := 40) rfl)) (hw _ (List.mem_of_getElem? (i := 39) rfl)) (by decide) (by decide)) (g := (mkF m 55 #[.val (.ref a), .val (.ref u), .val (.int p2), .val (.int p3), .val (.int s0)] [(.int (s0 + p2)), (.int z), (.ref bt), (.ref a)])) rfl (by rw [hml]; rfl) (argsL := [(.int z), (.int (s0 + p2))]) (rest := [(.ref bt), (.ref a)]) (lenOf pd_1 rfl) rfl (by show 2 * 0 + _ ≤ _; exact Nat.le_of_eq rfl) (hb hby d3_55) (fun _ _ => ⟨rfl, e_96, (by decide : 0 + 0 ≤ _), (by decide : 0 + 0 ≤ _)⟩)
      dsimp only [Pt.U, Pt.locs, Pt.cells, Pt.slots] at X_98 l_98 y_98 z_98 st_98 hQ_98
      subst l_98 y_98 z_98
      obtain ⟨Nq_98, e_98, gl, rfl, hgl⟩ := hQ_98
      replace Nf := Fr.app Nf Nq_98
      refine Win.go st_98 ?_
      clear st_98 Nq_98 X_96 e_96
      show Win p.tables e below _ (T_98.setTop (mkF m 58 #[.val (.ref a), .val (.ref u), .val (.int p2), .val (.int p3), .val (.int s0)] [(.int gl), (.ref bt), (.ref a)]))
      obtain ⟨_, _, ⟨T_99, L_99, k_99, n_99⟩, -, X_99, ⟨Lc_99, hQ_99, l_99, y_99, z_99⟩, st_99⟩ := Jvm.LawKit.callS X_98 hx (y := (⟨"java/util/Arrays", "copyOf", "([BI)[B"⟩ : MethodName)) hown (mvT hZ (hw _ (List.mem_of_getElem? (i := 50) rfl))) (mvT hZ (hw _ (List.mem_of_getElem? (i := 51) rfl))) (mvT hZ (hw _ (List.mem_of_getElem? (i := 52) rfl))) (mvT hZ (hw _ (List.mem_of_getElem? (i := 53) rfl))) (by decide) (backOf (W := 1) (rm8 l Z a0 hw [] bt gl z h0 n0 Zs B_bt (own_nb_2 hp hS hsp hgl)) hZ (hw _ (List.mem_of_getElem? (i := 53) rfl)) (hw _ (List.mem_of_getElem? (i := 52) rfl)) (by decide) (by decide)) (g := (mkF m 58 #[.val (.ref a), .val (.ref u), .val (.int p2), .val (.int p3), .val (.int s0)] [(.int gl), (.ref bt), (.ref a)])) rfl (by rw [hml]; rfl) (argsL := [(.ref bt), (.int gl)]) (rest := [(.ref a)]) (lenOf pd_3 rfl) rfl (by show 2 * 0 + _ ≤ _; exact Nat.le_of_eq rfl) (hb hby d3_58) (fun _ _ => ⟨rfl, e_98, (by decide : 0 + 1 ≤ _), (by decide : 0 + 128 ≤ _)⟩)
      dsimp only [Pt.U, Pt.locs, Pt.cells, Pt.slots] at X_99 l_99 y_99 z_99 st_99 hQ_99
      subst l_99 y_99 z_99
      obtain ⟨h_99, e_99⟩ : ∃ z, T_99.heap = z := ⟨_, rfl⟩
      rw [e_99] at hQ_99
      obtain ⟨Nq_99, K_99, nb, rfl, g_nb, so_99, n_99_B_nb⟩ := hQ_99
      replace Nf := Fr.app Nf Nq_99
      have ne_a_nb : a ≠ nb := Nat.ne_of_lt (Nat.lt_of_lt_of_le lt_a so_99)
      have ne_bt_nb : bt ≠ nb := Nat.ne_of_lt (Nat.lt_of_lt_of_le lt_bt so_99)
      have ne_en_nb : en ≠ nb := Nat.ne_of_lt (Nat.lt_of_lt_of_le lt_en so_99)
      have ne_li_nb : li ≠ nb := Nat.ne_of_lt (Nat.lt_of_lt_of_le lt_li so_99)
      have ne_u_nb : u ≠ nb := Nat.ne_of_lt (Nat.lt_of_lt_of_le lt_u so_99)
      have sz_nb : h0.size ≤ nb := Nat.le_trans Kp.1 so_99
      replace E_a := E_a.keep K_99
      replace F_bytes_a := F_bytes_a.keep K_99 nin0
      replace F_ends_a := F_ends_a.keep K_99 nin0
      replace F_lines_a := F_lines_a.keep K_99 nin0
      replace F_count_a := F_count_a.keep K_99 nin0
      replace B_bt := B_bt.keep K_99 nin0
      replace A_en := A_en.keep K_99 nin0
      replace A_li := A_li.keep K_99 nin0
      replace B_u := B_u.keep K_99 nin0
      replace lt_a := Nat.lt_of_lt_of_le lt_a K_99.1
      replace lt_bt := Nat.lt_of_lt_of_le lt_bt K_99.1
      replace lt_en := Nat.lt_of_lt_of_le lt_en K_99.1
      replace lt_li := Nat.lt_of_lt_of_le lt_li K_99.1
      replace lt_u := Nat.lt_of_lt_of_le lt_u K_99.1
      replace Zs := Nat.le_trans Zs K_99.1
      replace Kp := Kp.trans K_99 all0
      have B_nb := n_99_B_nb
      have lt_nb := B_nb.lt
      refine Win.go st_99 ?_
      clear st_99 Nq_99 X_98 e_98 K_99
      show Win p.tables e below _ (T_99.setTop (mkF m 61 #[.val (.ref a), .val (.ref u), .val (.int p2), .val (.int p3), .val (.int s0)] [(.ref nb), (.ref a)]))
      obtain ⟨T_100, h_100, X_100, e_100, W_100, st_100⟩ := putF X_99 hx hZ hown (host := "") (Or.inl (hw _ (List.mem_of_getElem? (i := 10) rfl))) Via.refl e_99 F_bytes_a E_a (Or.inl (hw _ (List.mem_of_getElem? (i := 11) rfl))) (hw _ (List.mem_of_getElem? (i := 2) rfl)) (ty := (.array .byte)) (by decide) rfl rfl (g := (mkF m 61 #[.val (.ref a), .val (.ref u), .val (.int p2), .val (.int p3), .val (.int s0)] [(.ref nb), (.ref a)])) rfl rfl (hb hby d3_61)
      replace E_a := E_a.wr W_100
      replace F_ends_a := F_ends_a.other W_100 (Or.inr (slot_ne (Or.inl (hw _ (List.mem_of_getElem? (i := 14) rfl))) (Or.inl (hw _ (List.mem_of_getElem? (i := 11) rfl))) (by decide) (t := (.array .int)) (t' := (.array .byte)) (by decide) (by decide)))
      replace F_lines_a := F_lines_a.other W_100 (Or.inr (slot_ne (Or.inl (hw _ (List.mem_of_getElem? (i := 16) rfl))) (Or.inl (hw _ (List.mem_of_getElem? (i := 11) rfl))) (by decide) (t := (.array .int)) (t' := (.array .byte)) (by decide) (by decide)))
      replace F_count_a := F_count_a.other W_100 (Or.inr (slot_ne (Or.inl (hw _ (List.mem_of_getElem? (i := 25) rfl))) (Or.inl (hw _ (List.mem_of_getElem? (i := 11) rfl))) (by decide) (t := .int) (t' := (.array .byte)) (by decide) (by decide)))
      replace B_bt := B_bt.other W_100 (Ne.symm ne_a_bt)
      replace A_en := A_en.other W_100 (Ne.symm ne_a_en)
      replace A_li := A_li.other W_100 (Ne.symm ne_a_li)
      replace B_u := B_u.other W_100 (Ne.symm ne_a_u)
      replace B_nb := B_nb.other W_100 (Ne.symm ne_a_nb)
      replace lt_a := Nat.lt_of_lt_of_le lt_a (Keep.of_wr W_100).1
      replace lt_bt := Nat.lt_of_lt_of_le lt_bt (Keep.of_wr W_100).1
      replace lt_en := Nat.lt_of_lt_of_le lt_en (Keep.of_wr W_100).1
      replace lt_li := Nat.lt_of_lt_of_le lt_li (Keep.of_wr W_100).1
      replace lt_u := Nat.lt_of_lt_of_le lt_u (Keep.of_wr W_100).1
      replace lt_nb := Nat.lt_of_lt_of_le lt_nb (Keep.of_wr W_100).1
      replace Zs := Nat.le_trans Zs (Keep.of_wr W_100).1
      replace Kp := Kp.wr W_100 (Or.inl (by simp))
      replace F_bytes_a := F_bytes_a.same W_100
      replace Nf := Fr.snoc X_100 Nf g_a
      refine Win.go st_100 ?_
      clear st_100 W_100 X_99 e_99
      show Win p.tables e below _ (T_100.setTop (mkF m 64 #[.val (.ref a), .val (.ref u), .val (.int p2), .val (.int p3), .val (.int s0)] []))
      refine s_aloadN (pc' := 65) X_100.here hx (hb hby d3_64) rfl rfl rfl ?_
      obtain ⟨T_101, X_101, e_101, st_101⟩ := getF X_100 hx hZ hown (host := "") (Or.inl (hw _ (List.mem_of_getElem? (i := 24) rfl))) Via.refl e_100 F_count_a (g := (mkF m 65 #[.val (.ref a), .val (.ref u), .val (.int p2), .val (.int p3), .val (.int s0)] [(.ref a)])) rfl rfl (hb hby d3_65)
      refine Win.go st_101 ?_
      clear st_101 X_100 e_100
      show Win p.tables e below _ (T_101.setTop (mkF m 68 #[.val (.ref a), .val (.ref u), .val (.int p2), .val (.int p3), .val (.int s0)] [(.int (2 : Int32))]))
      refine s_aloadN (pc' := 69) X_101.here hx (hb hby d3_68) rfl rfl rfl ?_
      obtain ⟨T_102, X_102, e_102, st_102⟩ := getF X_101 hx hZ hown (host := "") (Or.inl (hw _ (List.mem_of_getElem? (i := 13) rfl))) Via.refl e_101 F_ends_a (g := (mkF m 69 #[.val (.ref a), .val (.ref u), .val (.int p2), .val (.int p3), .val (.int s0)] [(.ref a), (.int (2 : Int32))])) rfl rfl (hb hby d3_69)
      refine Win.go st_102 ?_
      clear st_102 X_101 e_101
      show Win p.tables e below _ (T_102.setTop (mkF m 72 #[.val (.ref a), .val (.ref u), .val (.int p2), .val (.int p3), .val (.int s0)] [(.ref en), (.int (2 : Int32))]))
      obtain ⟨cl_103, Ar_103, S_103, G_103⟩ := id A_en
      refine Win.go (fun _ k => X_102.arraylength hx (by rw [e_102]; exact Ar_103.1) (State.isArrayOf_alike hZ.alike Ar_103.2.1) (g := (mkF m 72 #[.val (.ref a), .val (.ref u), .val (.int p2), .val (.int p3), .val (.int s0)] [(.ref en), (.int (2 : Int32))])) rfl rfl (hb hby d3_72) _ k) ?_
      rw [S_103]
      clear Ar_103 S_103 G_103
      show Win p.tables e below _ (T_102.setTop (mkF m 73 #[.val (.ref a), .val (.ref u), .val (.int p2), .val (.int p3), .val (.int s0)] [(.int (16 : Int32)), (.int (2 : Int32))]))
      refine s_icmpYes (pc' := 116) X_102.here hx (hb hby d3_73) (feqI (x := (2 : Int32)) (y := (16 : Int32)) (by decide)).2 (by decide) (by decide) ?_
      refine s_aloadN (pc' := 117) X_102.here hx (hb hby d3_116) rfl rfl rfl ?_
      refine s_iconst (pc' := 118) (z := (0 : Int32)) X_102.here hx (hb hby d3_117) rfl rfl ?_
      refine s_aloadN (pc' := 119) X_102.here hx (hb hby d3_118) rfl rfl rfl ?_
      obtain ⟨T_104, X_104, e_104, st_104⟩ := getF X_102 hx hZ hown (host := "") (Or.inl (hw _ (List.mem_of_getElem? (i := 10) rfl))) Via.refl e_102 F_bytes_a (g := (mkF m 119 #[.val (.ref a), .val (.ref u), .val (.int p2), .val (.int p3), .val (.int s0)] [(.ref a), (.int (0 : Int32)), (.ref u)])) rfl rfl (hb hby d3_119)
      refine Win.go st_104 ?_
      clear st_104 X_102 e_102
      show Win p.tables e below _ (T_104.setTop (mkF m 122 #[.val (.ref a), .val (.ref u), .val (.int p2), .val (.int p3), .val (.int s0)] [(.ref nb), (.int (0 : Int32)), (.ref u)]))
      refine s_iload (pc' := 124) X_104.here hx (hb hby d3_122) rfl rfl ?_
      refine s_iloadN (pc' := 125) X_104.here hx (hb hby d3_124) rfl rfl ?_
      obtain ⟨T_105, h_105, L_105, X_105, e_105, Nf', K_105, B_105, st_105⟩ := cpBA X_104 hx hZ hown (hw _ (List.mem_of_getElem? (i := 32) rfl)) (hw _ (List.mem_of_getElem? (i := 35) rfl)) (hw _ (List.mem_of_getElem? (i := 33) rfl)) (hw _ (List.mem_of_getElem? (i := 34) rfl)) e_104 B_u B_nb (by decide) (by exact hS.1) (by exact hp.1) (by exact own_c4 hp.2.1) (by first | exact Int.le_trans (Int.le_of_eq hsp.symm) hgl.2.1 | exact Int.le_trans (Int.le_of_eq hsp.symm) (Int.not_lt.mp hc38)) Nf g_nb (g := (mkF m 125 #[.val (.ref a), .val (.ref u), .val (.int p2), .val (.int p3), .val (.int s0)] [(.int p2), (.int s0), (.ref nb), (.int (0 : Int32)), (.ref u)])) rfl (by rw [hml]; rfl) rfl (hb hby d3_125) (by decide) (W := 0) (by show 2 * 0 + _ ≤ _; exact Nat.le_of_eq rfl) (by decide)
      replace E_a := E_a.keep K_105
      replace F_bytes_a := F_bytes_a.keep K_105 (ninS ne_a_nb nin0)
      replace F_ends_a := F_ends_a.keep K_105 (ninS ne_a_nb nin0)
      replace F_lines_a := F_lines_a.keep K_105 (ninS ne_a_nb nin0)
      replace F_count_a := F_count_a.keep K_105 (ninS ne_a_nb nin0)
      replace B_bt := B_bt.keep K_105 (ninS ne_bt_nb nin0)
      replace A_en := A_en.keep K_105 (ninS ne_en_nb nin0)
      replace A_li := A_li.keep K_105 (ninS ne_li_nb nin0)
      replace B_u := B_u.keep K_105 (ninS ne_u_nb nin0)
      replace lt_a := Nat.lt_of_lt_of_le lt_a K_105.1
      replace lt_bt := Nat.lt_of_lt_of_le lt_bt K_105.1
      replace lt_en := Nat.lt_of_lt_of_le lt_en K_105.1
      replace lt_li := Nat.lt_of_lt_of_le lt_li K_105.1
      replace lt_u := Nat.lt_of_lt_of_le lt_u K_105.1
      replace lt_nb := Nat.lt_of_lt_of_le lt_nb K_105.1
      replace Zs := Nat.le_trans Zs K_105.1
      replace Kp := Kp.trans K_105 (allS (Or.inr sz_nb) all0)
      replace B_nb := B_105
      replace Nf := Nf'
      refine Win.go st_105 ?_
      show Win p.tables e below _ (T_105.setTop (mkF m 128 #[.val (.ref a), .val (.ref u), .val (.int p2), .val (.int p3), .val (.int s0)] []))
      refine s_aloadN (pc' := 129) X_105.here hx (hb hby d3_128) rfl rfl rfl ?_
      obtain ⟨T_106, X_106, e_106, st_106⟩ := getF X_105 hx hZ hown (host := "") (Or.inl (hw _ (List.mem_of_getElem? (i := 13) rfl))) Via.refl e_105 F_ends_a (g := (mkF m 129 #[.val (.ref a), .val (.ref u), .val (.int p2), .val (.int p3), .val (.int s0)] [(.ref a)])) rfl rfl (hb hby d3_129)
      refine Win.go st_106 ?_
      clear st_106 X_105 e_105
      show Win p.tables e below _ (T_106.setTop (mkF m 132 #[.val (.ref a), .val (.ref u), .val (.int p2), .val (.int p3), .val (.int s0)] [(.ref en)]))
      refine s_aloadN (pc' := 133) X_106.here hx (hb hby d3_132) rfl rfl rfl ?_
      obtain ⟨T_107, X_107, e_107, st_107⟩ := getF X_106 hx hZ hown (host := "") (Or.inl (hw _ (List.mem_of_getElem? (i := 24) rfl))) Via.refl e_106 F_count_a (g := (mkF m 133 #[.val (.ref a), .val (.ref u), .val (.int p2), .val (.int p3), .val (.int s0)] [(.ref a), (.ref en)])) rfl rfl (hb hby d3_133)
      refine Win.go st_107 ?_
      clear st_107 X_106 e_106
      show Win p.tables e below _ (T_107.setTop (mkF m 136 #[.val (.ref a), .val (.ref u), .val (.int p2), .val (.int p3), .val (.int s0)] [(.int (2 : Int32)), (.ref en)]))
      refine s_iload (pc' := 138) X_107.here hx (hb hby d3_136) rfl rfl ?_
      refine s_iloadN (pc' := 139) X_107.here hx (hb hby d3_138) rfl rfl ?_
      refine s_iadd (pc' := 140) X_107.here hx (hb hby d3_139) rfl ?_
      obtain ⟨cl_108, Ar_108, S_108, G_108⟩ := id A_en
      have hb_108 : 0 ≤ ((2 : Int32)).toInt ∧ ((2 : Int32)).toInt < 16 := by decide
      obtain ⟨T_108, h_108, X_108, e_108, W_108, st_108⟩ := stI X_107 hx hZ e_107 Ar_108 (j := (2 : Int32)) (AF.inb S_108 hb_108) (g := (mkF m 140 #[.val (.ref a), .val (.ref u), .val (.int p2), .val (.int p3), .val (.int s0)] [(.int (s0 + p2)), (.int (2 : Int32)), (.ref en)])) rfl rfl (hb hby d3_140)
      have A_108 : AF Z h_108 en .int 16 (updF ef (2 : Int) (s0 + p2)) := AF.set Ar_108 S_108 G_108 W_108 hb_108
      replace E_a := E_a.wr W_108
      replace F_bytes_a := F_bytes_a.other W_108 (Or.inl ne_a_en)
      replace F_ends_a := F_ends_a.other W_108 (Or.inl ne_a_en)
      replace F_lines_a := F_lines_a.other W_108 (Or.inl ne_a_en)
      replace F_count_a := F_count_a.other W_108 (Or.inl ne_a_en)
      replace B_bt := B_bt.other W_108 ne_bt_en
      replace A_li := A_li.other W_108 (Ne.symm ne_en_li)
      replace B_u := B_u.other W_108 (Ne.symm ne_en_u)
      replace B_nb := B_nb.other W_108 (Ne.symm ne_en_nb)
      replace lt_a := Nat.lt_of_lt_of_le lt_a (Keep.of_wr W_108).1
      replace lt_bt := Nat.lt_of_lt_of_le lt_bt (Keep.of_wr W_108).1
      replace lt_en := Nat.lt_of_lt_of_le lt_en (Keep.of_wr W_108).1
      replace lt_li := Nat.lt_of_lt_of_le lt_li (Keep.of_wr W_108).1
      replace lt_u := Nat.lt_of_lt_of_le lt_u (Keep.of_wr W_108).1
      replace lt_nb := Nat.lt_of_lt_of_le lt_nb (Keep.of_wr W_108).1
      replace Zs := Nat.le_trans Zs (Keep.of_wr W_108).1
      replace Kp := Kp.wr W_108 (Or.inl (by simp))
      replace A_en := A_108
      replace Nf := Fr.snoc X_108 Nf g_en
      refine Win.go st_108 ?_
      clear st_108 W_108 A_108 Ar_108 S_108 G_108 hb_108 X_107 e_107
      show Win p.tables e below _ (T_108.setTop (mkF m 141 #[.val (.ref a), .val (.ref u), .val (.int p2), .val (.int p3), .val (.int s0)] []))
      refine s_aloadN (pc' := 142) X_108.here hx (hb hby d3_141) rfl rfl rfl ?_
      obtain ⟨T_109, X_109, e_109, st_109⟩ := getF X_108 hx hZ hown (host := "") (Or.inl (hw _ (List.mem_of_getElem? (i := 15) rfl))) Via.refl e_108 F_lines_a (g := (mkF m 142 #[.val (.ref a), .val (.ref u), .val (.int p2), .val (.int p3), .val (.int s0)] [(.ref a)])) rfl rfl (hb hby d3_142)
      refine Win.go st_109 ?_
      clear st_109 X_108 e_108
      show Win p.tables e below _ (T_109.setTop (mkF m 145 #[.val (.ref a), .val (.ref u), .val (.int p2), .val (.int p3), .val (.int s0)] [(.ref li)]))
      refine s_aloadN (pc' := 146) X_109.here hx (hb hby d3_145) rfl rfl rfl ?_
      refine s_dup (pc' := 147) X_109.here hx (hb hby d3_146) rfl rfl ?_
      obtain ⟨T_110, X_110, e_110, st_110⟩ := getF X_109 hx hZ hown (host := "") (Or.inl (hw _ (List.mem_of_getElem? (i := 24) rfl))) Via.refl e_109 F_count_a (g := (mkF m 147 #[.val (.ref a), .val (.ref u), .val (.int p2), .val (.int p3), .val (.int s0)] [(.ref a), (.ref a), (.ref li)])) rfl rfl (hb hby d3_147)
      refine Win.go st_110 ?_
      clear st_110 X_109 e_109
      show Win p.tables e below _ (T_110.setTop (mkF m 150 #[.val (.ref a), .val (.ref u), .val (.int p2), .val (.int p3), .val (.int s0)] [(.int (2 : Int32)), (.ref a), (.ref li)]))
      refine Win.go (fun _ k => XS.dupX1 X_110.here hx rfl (hb hby d3_150) rfl rfl rfl k) ?_
      show Win p.tables e below _ (T_110.setTop (mkF m 151 #[.val (.ref a), .val (.ref u), .val (.int p2), .val (.int p3), .val (.int s0)] [(.int (2 : Int32)), (.ref a), (.int (2 : Int32)), (.ref li)]))
      refine s_iconst (pc' := 152) (z := (1 : Int32)) X_110.here hx (hb hby d3_151) rfl rfl ?_
      refine Win.go (fun _ k => XS.iadd X_110.here hx rfl (hb hby d3_152) rfl k) ?_
      show Win p.tables e below _ (T_110.setTop (mkF m 153 #[.val (.ref a), .val (.ref u), .val (.int p2), .val (.int p3), .val (.int s0)] [(.int (3 : Int32)), (.ref a), (.int (2 : Int32)), (.ref li)]))
      obtain ⟨T_111, h_111, X_111, e_111, W_111, st_111⟩ := putF X_110 hx hZ hown (host := "") (Or.inl (hw _ (List.mem_of_getElem? (i := 24) rfl))) Via.refl e_110 F_count_a E_a (Or.inl (hw _ (List.mem_of_getElem? (i := 25) rfl))) (hw _ (List.mem_of_getElem? (i := 2) rfl)) (ty := .int) (by decide) rfl rfl (g := (mkF m 153 #[.val (.ref a), .val (.ref u), .val (.int p2), .val (.int p3), .val (.int s0)] [(.int (3 : Int32)), (.ref a), (.int (2 : Int32)), (.ref li)])) rfl rfl (hb hby d3_153)
      replace E_a := E_a.wr W_111
      replace F_bytes_a := F_bytes_a.other W_111 (Or.inr (slot_ne (Or.inl (hw _ (List.mem_of_getElem? (i := 11) rfl))) (Or.inl (hw _ (List.mem_of_getElem? (i := 25) rfl))) (by decide) (t := (.array .byte)) (t' := .int) (by decide) (by decide)))
      replace F_ends_a := F_ends_a.other W_111 (Or.inr (slot_ne (Or.inl (hw _ (List.mem_of_getElem? (i := 14) rfl))) (Or.inl (hw _ (List.mem_of_getElem? (i := 25) rfl))) (by decide) (t := (.array .int)) (t' := .int) (by decide) (by decide)))
      replace F_lines_a := F_lines_a.other W_111 (Or.inr (slot_ne (Or.inl (hw _ (List.mem_of_getElem? (i := 16) rfl))) (Or.inl (hw _ (List.mem_of_getElem? (i := 25) rfl))) (by decide) (t := (.array .int)) (t' := .int) (by decide) (by decide)))
      replace B_bt := B_bt.other W_111 (Ne.symm ne_a_bt)
      replace A_li := A_li.other W_111 (Ne.symm ne_a_li)
      replace B_u := B_u.other W_111 (Ne.symm ne_a_u)
      replace B_nb := B_nb.other W_111 (Ne.symm ne_a_nb)
      replace A_en := A_en.other W_111 (Ne.symm ne_a_en)
      replace lt_a := Nat.lt_of_lt_of_le lt_a (Keep.of_wr W_111).1
      replace lt_bt := Nat.lt_of_lt_of_le lt_bt (Keep.of_wr W_111).1
      replace lt_en := Nat.lt_of_lt_of_le lt_en (Keep.of_wr W_111).1
      replace lt_li := Nat.lt_of_lt_of_le lt_li (Keep.of_wr W_111).1
      replace lt_u := Nat.lt_of_lt_of_le lt_u (Keep.of_wr W_111).1
      replace lt_nb := Nat.lt_of_lt_of_le lt_nb (Keep.of_wr W_111).1
      replace Zs := Nat.le_trans Zs (Keep.of_wr W_111).1
      replace Kp := Kp.wr W_111 (Or.inl (by simp))
      replace F_count_a := F_count_a.same W_111
      replace Nf := Fr.snoc X_111 Nf g_a
      refine Win.go st_111 ?_
      clear st_111 W_111 X_110 e_110
      show Win p.tables e below _ (T_111.setTop (mkF m 156 #[.val (.ref a), .val (.ref u), .val (.int p2), .val (.int p3), .val (.int s0)] [(.int (2 : Int32)), (.ref li)]))
      refine s_iloadN (pc' := 157) X_111.here hx (hb hby d3_156) rfl rfl ?_
      obtain ⟨cl_112, Ar_112, S_112, G_112⟩ := id A_li
      have hb_112 : 0 ≤ ((2 : Int32)).toInt ∧ ((2 : Int32)).toInt < 16 := by decide
      obtain ⟨T_112, h_112, X_112, e_112, W_112, st_112⟩ := stI X_111 hx hZ e_111 Ar_112 (j := (2 : Int32)) (AF.inb S_112 hb_112) (g := (mkF m 157 #[.val (.ref a), .val (.ref u), .val (.int p2), .val (.int p3), .val (.int s0)] [(.int p3), (.int (2 : Int32)), (.ref li)])) rfl rfl (hb hby d3_157)
      have A_112 : AF Z h_112 li .int 16 (updF lf (2 : Int) p3) := AF.set Ar_112 S_112 G_112 W_112 hb_112
      replace E_a := E_a.wr W_112
      replace F_bytes_a := F_bytes_a.other W_112 (Or.inl ne_a_li)
      replace F_ends_a := F_ends_a.other W_112 (Or.inl ne_a_li)
      replace F_lines_a := F_lines_a.other W_112 (Or.inl ne_a_li)
      replace F_count_a := F_count_a.other W_112 (Or.inl ne_a_li)
      replace B_bt := B_bt.other W_112 ne_bt_li
      replace B_u := B_u.other W_112 (Ne.symm ne_li_u)
      replace B_nb := B_nb.other W_112 (Ne.symm ne_li_nb)
      replace A_en := A_en.other W_112 ne_en_li
      replace lt_a := Nat.lt_of_lt_of_le lt_a (Keep.of_wr W_112).1
      replace lt_bt := Nat.lt_of_lt_of_le lt_bt (Keep.of_wr W_112).1
      replace lt_en := Nat.lt_of_lt_of_le lt_en (Keep.of_wr W_112).1
      replace lt_li := Nat.lt_of_lt_of_le lt_li (Keep.of_wr W_112).1
      replace lt_u := Nat.lt_of_lt_of_le lt_u (Keep.of_wr W_112).1
      replace lt_nb := Nat.lt_of_lt_of_le lt_nb (Keep.of_wr W_112).1
      replace Zs := Nat.le_trans Zs (Keep.of_wr W_112).1
      replace Kp := Kp.wr W_112 (Or.inl (by simp))
      replace A_li := A_112
      replace Nf := Fr.snoc X_112 Nf g_li
      refine Win.go st_112 ?_
      clear st_112 W_112 A_112 Ar_112 S_112 G_112 hb_112 X_111 e_111
      show Win p.tables e below _ (T_112.setTop (mkF m 158 #[.val (.ref a), .val (.ref u), .val (.int p2), .val (.int p3), .val (.int s0)] []))
      refine winV X_112 hx hlk e_112 Bd.returns (hb hby d3_158) (by decide) (by decide) ?_
      exact ⟨Nf, Kp, ⟨nb, gl, g_nb, (Ne.symm ne_en_nb), (Ne.symm ne_li_nb), (Ne.symm ne_a_nb), (Ne.symm ne_u_nb), own_lf_2 hp hS hsp hgl, F_bytes_a, F_ends_a, F_lines_a, F_count_a, B_nb, (by rw [hs0]; exact A_en), A_li⟩, rfl⟩
    · skip
      refine s_icmpYes (pc' := 64) X_93.here hx (hb hby d3_38) (fltI (x := z) (y := (s0 + p2)) hc38).2.2.2 (by decide) (by decide) ?_
      refine s_aloadN (pc' := 65) X_93.here hx (hb hby d3_64) rfl rfl rfl ?_
      obtain ⟨T_113, X_113, e_113, st_113⟩ := getF X_93 hx hZ hown (host := "") (Or.inl (hw _ (List.mem_of_getElem? (i := 24) rfl))) Via.refl e_93 F_count_a (g := (mkF m 65 #[.val (.ref a), .val (.ref u), .val (.int p2), .val (.int p3), .val (.int s0)] [(.ref a)])) rfl rfl (hb hby d3_65)
      refine Win.go st_113 ?_
      clear st_113 X_93 e_93
      show Win p.tables e below _ (T_113.setTop (mkF m 68 #[.val (.ref a), .val (.ref u), .val (.int p2), .val (.int p3), .val (.int s0)] [(.int (2 : Int32))]))
      refine s_aloadN (pc' := 69) X_113.here hx (hb hby d3_68) rfl rfl rfl ?_
      obtain ⟨T_114, X_114, e_114, st_114⟩ := getF X_113 hx hZ hown (host := "") (Or.inl (hw _ (List.mem_of_getElem? (i := 13) rfl))) Via.refl e_113 F_ends_a (g := (mkF m 69 #[.val (.ref a), .val (.ref u), .val (.int p2), .val (.int p3), .val (.int s0)] [(.ref a), (.int (2 : Int32))])) rfl rfl (hb hby d3_69)
      refine Win.go st_114 ?_
      clear st_114 X_113 e_113
      show Win p.tables e below _ (T_114.setTop (mkF m 72 #[.val (.ref a), .val (.ref u), .val (.int p2), .val (.int p3), .val (.int s0)] [(.ref en), (.int (2 : Int32))]))
      obtain ⟨cl_115, Ar_115, S_115, G_115⟩ := id A_en
      refine Win.go (fun _ k => X_114.arraylength hx (by rw [e_114]; exact Ar_115.1) (State.isArrayOf_alike hZ.alike Ar_115.2.1) (g := (mkF m 72 #[.val (.ref a), .val (.ref u), .val (.int p2), .val (.int p3), .val (.int s0)] [(.ref en), (.int (2 : Int32))])) rfl rfl (hb hby d3_72) _ k) ?_
      rw [S_115]
      clear Ar_115 S_115 G_115
      show Win p.tables e below _ (T_114.setTop (mkF m 73 #[.val (.ref a), .val (.ref u), .val (.int p2), .val (.int p3), .val (.int s0)] [(.int (16 : Int32)), (.int (2 : Int32))]))
      refine s_icmpYes (pc' := 116) X_114.here hx (hb hby d3_73) (feqI (x := (2 : Int32)) (y := (16 : Int32)) (by decide)).2 (by decide) (by decide) ?_
      refine s_aloadN (pc' := 117) X_114.here hx (hb hby d3_116) rfl rfl rfl ?_
      refine s_iconst (pc' := 118) (z := (0 : Int32)) X_114.here hx (hb hby d3_117) rfl rfl ?_
      refine s_aloadN (pc' := 119) X_114.here hx (hb hby d3_118) rfl rfl rfl ?_
      obtain ⟨T_116, X_116, e_116, st_116⟩ := getF X_114 hx hZ hown (host := "") (Or.inl (hw _ (List.mem_of_getElem? (i := 10) rfl))) Via.refl e_114 F_bytes_a (g := (mkF m 119 #[.val (.ref a), .val (.ref u), .val (.int p2), .val (.int p3), .val (.int s0)] [(.ref a), (.int (0 : Int32)), (.ref u)])) rfl rfl (hb hby d3_119)
      refine Win.go st_116 ?_
      clear st_116 X_114 e_114
      show Win p.tables e below _ (T_116.setTop (mkF m 122 #[.val (.ref a), .val (.ref u), .val (.int p2), .val (.int p3), .val (.int s0)] [(.ref bt), (.int (0 : Int32)), (.ref u)]))
      refine s_iload (pc' := 124) X_116.here hx (hb hby d3_122) rfl rfl ?_
      refine s_iloadN (pc' := 125) X_116.here hx (hb hby d3_124) rfl rfl ?_
      obtain ⟨T_117, h_117, L_117, X_117, e_117, Nf', K_117, B_117, st_117⟩ := cpBA X_116 hx hZ hown (hw _ (List.mem_of_getElem? (i := 32) rfl)) (hw _ (List.mem_of_getElem? (i := 35) rfl)) (hw _ (List.mem_of_getElem? (i := 33) rfl)) (hw _ (List.mem_of_getElem? (i := 34) rfl)) e_116 B_u B_bt (by decide) (by exact hS.1) (by exact hp.1) (by exact own_c4 hp.2.1) (by first | exact Int.le_trans (Int.le_of_eq hsp.symm) hgl.2.1 | exact Int.le_trans (Int.le_of_eq hsp.symm) (Int.not_lt.mp hc38)) Nf g_bt (g := (mkF m 125 #[.val (.ref a), .val (.ref u), .val (.int p2), .val (.int p3), .val (.int s0)] [(.int p2), (.int s0), (.ref bt), (.int (0 : Int32)), (.ref u)])) rfl (by rw [hml]; rfl) rfl (hb hby d3_125) (by decide) (W := 0) (by show 2 * 0 + _ ≤ _; exact Nat.le_of_eq rfl) (by decide)
      replace E_a := E_a.keep K_117
      replace F_bytes_a := F_bytes_a.keep K_117 (ninS ne_a_bt nin0)
      replace F_ends_a := F_ends_a.keep K_117 (ninS ne_a_bt nin0)
      replace F_lines_a := F_lines_a.keep K_117 (ninS ne_a_bt nin0)
      replace F_count_a := F_count_a.keep K_117 (ninS ne_a_bt nin0)
      replace A_en := A_en.keep K_117 (ninS (Ne.symm ne_bt_en) nin0)
      replace A_li := A_li.keep K_117 (ninS (Ne.symm ne_bt_li) nin0)
      replace B_u := B_u.keep K_117 (ninS (Ne.symm ne_bt_u) nin0)
      replace lt_a := Nat.lt_of_lt_of_le lt_a K_117.1
      replace lt_bt := Nat.lt_of_lt_of_le lt_bt K_117.1
      replace lt_en := Nat.lt_of_lt_of_le lt_en K_117.1
      replace lt_li := Nat.lt_of_lt_of_le lt_li K_117.1
      replace lt_u := Nat.lt_of_lt_of_le lt_u K_117.1
      replace Zs := Nat.le_trans Zs K_117.1
      replace Kp := Kp.trans K_117 (allS (Or.inl (by simp)) all0)
      replace B_bt := B_117
      replace Nf := Nf'
      refine Win.go st_117 ?_
      show Win p.tables e below _ (T_117.setTop (mkF m 128 #[.val (.ref a), .val (.ref u), .val (.int p2), .val (.int p3), .val (.int s0)] []))
      refine s_aloadN (pc' := 129) X_117.here hx (hb hby d3_128) rfl rfl rfl ?_
      obtain ⟨T_118, X_118, e_118, st_118⟩ := getF X_117 hx hZ hown (host := "") (Or.inl (hw _ (List.mem_of_getElem? (i := 13) rfl))) Via.refl e_117 F_ends_a (g := (mkF m 129 #[.val (.ref a), .val (.ref u), .val (.int p2), .val (.int p3), .val (.int s0)] [(.ref a)])) rfl rfl (hb hby d3_129)
      refine Win.go st_118 ?_
      clear st_118 X_117 e_117
      show Win p.tables e below _ (T_118.setTop (mkF m 132 #[.val (.ref a), .val (.ref u), .val (.int p2), .val (.int p3), .val (.int s0)] [(.ref en)]))
      refine s_aloadN (pc' := 133) X_118.here hx (hb hby d3_132) rfl rfl rfl ?_
      obtain ⟨T_119, X_119, e_119, st_119⟩ := getF X_118 hx hZ hown (host := "") (Or.inl (hw _ (List.mem_of_getElem? (i := 24) rfl))) Via.refl e_118 F_count_a (g := (mkF m 133 #[.val (.ref a), .val (.ref u), .val (.int p2), .val (.int p3), .val (.int s0)] [(.ref a), (.ref en)])) rfl rfl (hb hby d3_133)
      refine Win.go st_119 ?_
      clear st_119 X_118 e_118
      show Win p.tables e below _ (T_119.setTop (mkF m 136 #[.val (.ref a), .val (.ref u), .val (.int p2), .val (.int p3), .val (.int s0)] [(.int (2 : Int32)), (.ref en)]))
      refine s_iload (pc' := 138) X_119.here hx (hb hby d3_136) rfl rfl ?_
      refine s_iloadN (pc' := 139) X_119.here hx (hb hby d3_138) rfl rfl ?_
      refine s_iadd (pc' := 140) X_119.here hx (hb hby d3_139) rfl ?_
      obtain ⟨cl_120, Ar_120, S_120, G_120⟩ := id A_en
      have hb_120 : 0 ≤ ((2 : Int32)).toInt ∧ ((2 : Int32)).toInt < 16 := by decide
      obtain ⟨T_120, h_120, X_120, e_120, W_120, st_120⟩ := stI X_119 hx hZ e_119 Ar_120 (j := (2 : Int32)) (AF.inb S_120 hb_120) (g := (mkF m 140 #[.val (.ref a), .val (.ref u), .val (.int p2), .val (.int p3), .val (.int s0)] [(.int (s0 + p2)), (.int (2 : Int32)), (.ref en)])) rfl rfl (hb hby d3_140)
      have A_120 : AF Z h_120 en .int 16 (updF ef (2 : Int) (s0 + p2)) := AF.set Ar_120 S_120 G_120 W_120 hb_120
      replace E_a := E_a.wr W_120
      replace F_bytes_a := F_bytes_a.other W_120 (Or.inl ne_a_en)
      replace F_ends_a := F_ends_a.other W_120 (Or.inl ne_a_en)
      replace F_lines_a := F_lines_a.other W_120 (Or.inl ne_a_en)
      replace F_count_a := F_count_a.other W_120 (Or.inl ne_a_en)
      replace A_li := A_li.other W_120 (Ne.symm ne_en_li)
      replace B_u := B_u.other W_120 (Ne.symm ne_en_u)
      replace B_bt := B_bt.other W_120 ne_bt_en
      replace lt_a := Nat.lt_of_lt_of_le lt_a (Keep.of_wr W_120).1
      replace lt_bt := Nat.lt_of_lt_of_le lt_bt (Keep.of_wr W_120).1
      replace lt_en := Nat.lt_of_lt_of_le lt_en (Keep.of_wr W_120).1
      replace lt_li := Nat.lt_of_lt_of_le lt_li (Keep.of_wr W_120).1
      replace lt_u := Nat.lt_of_lt_of_le lt_u (Keep.of_wr W_120).1
      replace Zs := Nat.le_trans Zs (Keep.of_wr W_120).1
      replace Kp := Kp.wr W_120 (Or.inl (by simp))
      replace A_en := A_120
      replace Nf := Fr.snoc X_120 Nf g_en
      refine Win.go st_120 ?_
      clear st_120 W_120 A_120 Ar_120 S_120 G_120 hb_120 X_119 e_119
      show Win p.tables e below _ (T_120.setTop (mkF m 141 #[.val (.ref a), .val (.ref u), .val (.int p2), .val (.int p3), .val (.int s0)] []))
      refine s_aloadN (pc' := 142) X_120.here hx (hb hby d3_141) rfl rfl rfl ?_
      obtain ⟨T_121, X_121, e_121, st_121⟩ := getF X_120 hx hZ hown (host := "") (Or.inl (hw _ (List.mem_of_getElem? (i := 15) rfl))) Via.refl e_120 F_lines_a (g := (mkF m 142 #[.val (.ref a), .val (.ref u), .val (.int p2), .val (.int p3), .val (.int s0)] [(.ref a)])) rfl rfl (hb hby d3_142)
      refine Win.go st_121 ?_
      clear st_121 X_120 e_120
      show Win p.tables e below _ (T_121.setTop (mkF m 145 #[.val (.ref a), .val (.ref u), .val (.int p2), .val (.int p3), .val (.int s0)] [(.ref li)]))
      refine s_aloadN (pc' := 146) X_121.here hx (hb hby d3_145) rfl rfl rfl ?_
      refine s_dup (pc' := 147) X_121.here hx (hb hby d3_146) rfl rfl ?_
      obtain ⟨T_122, X_122, e_122, st_122⟩ := getF X_121 hx hZ hown (host := "") (Or.inl (hw _ (List.mem_of_getElem? (i := 24) rfl))) Via.refl e_121 F_count_a (g := (mkF m 147 #[.val (.ref a), .val (.ref u), .val (.int p2), .val (.int p3), .val (.int s0)] [(.ref a), (.ref a), (.ref li)])) rfl rfl (hb hby d3_147)
      refine Win.go st_122 ?_
      clear st_122 X_121 e_121
      show Win p.tables e below _ (T_122.setTop (mkF m 150 #[.val (.ref a), .val (.ref u), .val (.int p2), .val (.int p3), .val (.int s0)] [(.int (2 : Int32)), (.ref a), (.ref li)]))
      refine Win.go (fun _ k => XS.dupX1 X_122.here hx rfl (hb hby d3_150) rfl rfl rfl k) ?_
      show Win p.tables e below _ (T_122.setTop (mkF m 151 #[.val (.ref a), .val (.ref u), .val (.int p2), .val (.int p3), .val (.int s0)] [(.int (2 : Int32)), (.ref a), (.int (2 : Int32)), (.ref li)]))
      refine s_iconst (pc' := 152) (z := (1 : Int32)) X_122.here hx (hb hby d3_151) rfl rfl ?_
      refine Win.go (fun _ k => XS.iadd X_122.here hx rfl (hb hby d3_152) rfl k) ?_
      show Win p.tables e below _ (T_122.setTop (mkF m 153 #[.val (.ref a), .val (.ref u), .val (.int p2), .val (.int p3), .val (.int s0)] [(.int (3 : Int32)), (.ref a), (.int (2 : Int32)), (.ref li)]))
      obtain ⟨T_123, h_123, X_123, e_123, W_123, st_123⟩ := putF X_122 hx hZ hown (host := "") (Or.inl (hw _ (List.mem_of_getElem? (i := 24) rfl))) Via.refl e_122 F_count_a E_a (Or.inl (hw _ (List.mem_of_getElem? (i := 25) rfl))) (hw _ (List.mem_of_getElem? (i := 2) rfl)) (ty := .int) (by decide) rfl rfl (g := (mkF m 153 #[.val (.ref a), .val (.ref u), .val (.int p2), .val (.int p3), .val (.int s0)] [(.int (3 : Int32)), (.ref a), (.int (2 : Int32)), (.ref li)])) rfl rfl (hb hby d3_153)
      replace E_a := E_a.wr W_123
      replace F_bytes_a := F_bytes_a.other W_123 (Or.inr (slot_ne (Or.inl (hw _ (List.mem_of_getElem? (i := 11) rfl))) (Or.inl (hw _ (List.mem_of_getElem? (i := 25) rfl))) (by decide) (t := (.array .byte)) (t' := .int) (by decide) (by decide)))
      replace F_ends_a := F_ends_a.other W_123 (Or.inr (slot_ne (Or.inl (hw _ (List.mem_of_getElem? (i := 14) rfl))) (Or.inl (hw _ (List.mem_of_getElem? (i := 25) rfl))) (by decide) (t := (.array .int)) (t' := .int) (by decide) (by decide)))
      replace F_lines_a := F_lines_a.other W_123 (Or.inr (slot_ne (Or.inl (hw _ (List.mem_of_getElem? (i := 16) rfl))) (Or.inl (hw _ (List.mem_of_getElem? (i := 25) rfl))) (by decide) (t := (.array .int)) (t' := .int) (by decide) (by decide)))
      replace A_li := A_li.other W_123 (Ne.symm ne_a_li)
      replace B_u := B_u.other W_123 (Ne.symm ne_a_u)
      replace B_bt := B_bt.other W_123 (Ne.symm ne_a_bt)
      replace A_en := A_en.other W_123 (Ne.symm ne_a_en)
      replace lt_a := Nat.lt_of_lt_of_le lt_a (Keep.of_wr W_123).1
      replace lt_bt := Nat.lt_of_lt_of_le lt_bt (Keep.of_wr W_123).1
      replace lt_en := Nat.lt_of_lt_of_le lt_en (Keep.of_wr W_123).1
      replace lt_li := Nat.lt_of_lt_of_le lt_li (Keep.of_wr W_123).1
      replace lt_u := Nat.lt_of_lt_of_le lt_u (Keep.of_wr W_123).1
      replace Zs := Nat.le_trans Zs (Keep.of_wr W_123).1
      replace Kp := Kp.wr W_123 (Or.inl (by simp))
      replace F_count_a := F_count_a.same W_123
      replace Nf := Fr.snoc X_123 Nf g_a
      refine Win.go st_123 ?_
      clear st_123 W_123 X_122 e_122
      show Win p.tables e below _ (T_123.setTop (mkF m 156 #[.val (.ref a), .val (.ref u), .val (.int p2), .val (.int p3), .val (.int s0)] [(.int (2 : Int32)), (.ref li)]))
      refine s_iloadN (pc' := 157) X_123.here hx (hb hby d3_156) rfl rfl ?_
      obtain ⟨cl_124, Ar_124, S_124, G_124⟩ := id A_li
      have hb_124 : 0 ≤ ((2 : Int32)).toInt ∧ ((2 : Int32)).toInt < 16 := by decide
      obtain ⟨T_124, h_124, X_124, e_124, W_124, st_124⟩ := stI X_123 hx hZ e_123 Ar_124 (j := (2 : Int32)) (AF.inb S_124 hb_124) (g := (mkF m 157 #[.val (.ref a), .val (.ref u), .val (.int p2), .val (.int p3), .val (.int s0)] [(.int p3), (.int (2 : Int32)), (.ref li)])) rfl rfl (hb hby d3_157)
      have A_124 : AF Z h_124 li .int 16 (updF lf (2 : Int) p3) := AF.set Ar_124 S_124 G_124 W_124 hb_124
      replace E_a := E_a.wr W_124
      replace F_bytes_a := F_bytes_a.other W_124 (Or.inl ne_a_li)
      replace F_ends_a := F_ends_a.other W_124 (Or.inl ne_a_li)
      replace F_lines_a := F_lines_a.other W_124 (Or.inl ne_a_li)
      replace F_count_a := F_count_a.other W_124 (Or.inl ne_a_li)
      replace B_u := B_u.other W_124 (Ne.symm ne_li_u)
      replace B_bt := B_bt.other W_124 ne_bt_li
      replace A_en := A_en.other W_124 ne_en_li
      replace lt_a := Nat.lt_of_lt_of_le lt_a (Keep.of_wr W_124).1
      replace lt_bt := Nat.lt_of_lt_of_le lt_bt (Keep.of_wr W_124).1
      replace lt_en := Nat.lt_of_lt_of_le lt_en (Keep.of_wr W_124).1
      replace lt_li := Nat.lt_of_lt_of_le lt_li (Keep.of_wr W_124).1
      replace lt_u := Nat.lt_of_lt_of_le lt_u (Keep.of_wr W_124).1
      replace Zs := Nat.le_trans Zs (Keep.of_wr W_124).1
      replace Kp := Kp.wr W_124 (Or.inl (by simp))
      replace A_li := A_124
      replace Nf := Fr.snoc X_124 Nf g_li
      refine Win.go st_124 ?_
      clear st_124 W_124 A_124 Ar_124 S_124 G_124 hb_124 X_123 e_123
      show Win p.tables e below _ (T_124.setTop (mkF m 158 #[.val (.ref a), .val (.ref u), .val (.int p2), .val (.int p3), .val (.int s0)] []))
      refine winV X_124 hx hlk e_124 Bd.returns (hb hby d3_158) (by decide) (by decide) ?_
      exact ⟨Nf, Kp, ⟨bt, z, g_bt, ne_bt_en, ne_bt_li, (Ne.symm ne_a_bt), ne_bt_u, ⟨hp.2.2.1, Int.le_trans hp.2.2.2 (by decide)⟩, F_bytes_a, F_ends_a, F_lines_a, F_count_a, B_bt, (by rw [hs0]; exact A_en), A_li⟩, rfl⟩
theorem pn_0 : plainName "com/example/nearstable/nearstable/files/StringBatchStartPinLaw" = true := by first | (simp [plainName, overriddenIn]; done) | decide +kernel
theorem pd_4 : parseMethodDescriptor "()V" = some ⟨[], none⟩ := by decide +kernel
theorem pd_5 : parseMethodDescriptor "([BII)V" = some ⟨[(.array .byte), .int, .int], none⟩ := by decide +kernel
theorem ef_0 (m : MethodId) (p0 : Int32) (p1 : Int32) (p2 : Int32) (p3 : Int32) : entryFrame m #[(.int p0), (.int p1), (.int p2), (.int p3)] maxLocals = mkF m 0 #[.val (.int p0), .val (.int p1), .val (.int p2), .val (.int p3), .unset, .unset, .unset, .unset, .unset, .unset, .unset, .unset, .unset] [] := by first | (simp [entryFrame, mkF, argsToLocals, Value.category, maxLocals]; done) | rfl
def Q0 (Z : State) (p0 : Int32) (p1 : Int32) (p2 : Int32) (p3 : Int32) (h0 : Heap) (n0 : Nat) (v : Option Value) (h : Heap) (L : List Loc) : Prop := Fr n0 L ∧ v = some (.int 1)
set_option maxRecDepth 65536 in
set_option maxHeartbeats 40000000 in
theorem rm0 (l : Launch) (Z : State) (a0 : Array Value) (hw : ∀ d ∈ tables_1, d.before a0 Z = true) (ws : List Jvm.Cond) (p0 : Int32) (p1 : Int32) (p2 : Int32) (p3 : Int32) (h0 : Heap) (n0 : Nat) (Zs : n0 ≤ h0.size) :
    MetFree l x (head1 (Jvm.Cond.code x code maxLocals ret :: ws) room_1) (fun as' U => as' = #[(.int p0), (.int p1), (.int p2), (.int p3)] ∧ Z.Warmed39 U.vm ∧ U.heap = h0) (fun _ _ _ _ _ => True) (fun _ U o U' => ∃ v L, o = .returned v ∧ Q0 Z p0 p1 p2 p3 h0 n0 v U'.heap L ∧ FrameEnd U o U' L room_1.cells room_1.slots) := by
  refine MetFree.of_bodySF (plainFor_of_name pn_0) hisR ?_
  intro p e s m args below meth c s₁ Bd hml0 hP hK
  obtain ⟨rfl, hZ, hh⟩ := hP
  have hx := Bd.exec
  have hby := Bd.bytes
  have hml : c.maxLocals = 13 := hml0
  have hown : s.vm.findClass "com/example/nearstable/nearstable/files/StringBatchStartPinLaw" = some m.cls := findClass_of_methodNamed Bd.named
  have hnm := (name_of_methodNamed Bd.named Bd.method).1
  have hlk : meth.locks = false := Bd.notSynchronized
  have X0 : Stand p l e room_1 s m #[(.int p0), (.int p1), (.int p2), (.int p3)] below meth c s₁ [] 0 0 := Stand.of_body Bd
  have e0 : s₁.heap = h0 := by rw [← hh, Bd.state]; rfl
  have Nf := Fr.nil n0
  refine (?_ : Win p.tables e below (PostQ s (Q0 Z p0 p1 p2 p3 h0 n0) room_1.cells room_1.slots) (s₁.setTop (entryFrame m #[(.int p0), (.int p1), (.int p2), (.int p3)] maxLocals)))
  rw [ef_0]
  show Win p.tables e below _ (s₁.setTop (mkF m 0 #[.val (.int p0), .val (.int p1), .val (.int p2), .val (.int p3), .unset, .unset, .unset, .unset, .unset, .unset, .unset, .unset, .unset] []))
  refine s_iloadN (pc' := 1) X0.here hx (hb hby at_0) rfl rfl ?_
  refine s_bipush (pc' := 3) (z := (31 : Int32)) X0.here hx (hb hby at_1) rfl rfl ?_
  refine s_iand (pc' := 4) X0.here hx (hb hby at_3) rfl ?_
  refine s_istore (pc' := 6) (l' := #[.val (.int p0), .val (.int p1), .val (.int p2), .val (.int p3), .val (.int (p0 &&& (31 : Int32))), .unset, .unset, .unset, .unset, .unset, .unset, .unset, .unset]) X0.here hx (hb hby at_4) rfl rfl ?_
  generalize haa : (p0 &&& (31 : Int32)) = aa
  show Win p.tables e below _ (s₁.setTop (mkF m 6 #[.val (.int p0), .val (.int p1), .val (.int p2), .val (.int p3), .val (.int aa), .unset, .unset, .unset, .unset, .unset, .unset, .unset, .unset] []))
  have baa : 0 ≤ aa.toInt ∧ aa.toInt ≤ 31 := haa ▸ c_and p0 31 (by decide)
  refine s_iloadN (pc' := 7) X0.here hx (hb hby at_6) rfl rfl ?_
  refine s_bipush (pc' := 9) (z := (31 : Int32)) X0.here hx (hb hby at_7) rfl rfl ?_
  refine s_iand (pc' := 10) X0.here hx (hb hby at_9) rfl ?_
  refine s_istore (pc' := 12) (l' := #[.val (.int p0), .val (.int p1), .val (.int p2), .val (.int p3), .val (.int aa), .val (.int (p1 &&& (31 : Int32))), .unset, .unset, .unset, .unset, .unset, .unset, .unset]) X0.here hx (hb hby at_10) rfl rfl ?_
  generalize hbb : (p1 &&& (31 : Int32)) = bb
  show Win p.tables e below _ (s₁.setTop (mkF m 12 #[.val (.int p0), .val (.int p1), .val (.int p2), .val (.int p3), .val (.int aa), .val (.int bb), .unset, .unset, .unset, .unset, .unset, .unset, .unset] []))
  have bbb : 0 ≤ bb.toInt ∧ bb.toInt ≤ 31 := hbb ▸ c_and p1 31 (by decide)
  refine s_iloadN (pc' := 13) X0.here hx (hb hby at_12) rfl rfl ?_
  refine s_bipush (pc' := 15) (z := (31 : Int32)) X0.here hx (hb hby at_13) rfl rfl ?_
  refine s_iand (pc' := 16) X0.here hx (hb hby at_15) rfl ?_
  refine s_istore (pc' := 18) (l' := #[.val (.int p0), .val (.int p1), .val (.int p2), .val (.int p3), .val (.int aa), .val (.int bb), .val (.int (p2 &&& (31 : Int32))), .unset, .unset, .unset, .unset, .unset, .unset]) X0.here hx (hb hby at_16) rfl rfl ?_
  generalize hcc : (p2 &&& (31 : Int32)) = cc
  show Win p.tables e below _ (s₁.setTop (mkF m 18 #[.val (.int p0), .val (.int p1), .val (.int p2), .val (.int p3), .val (.int aa), .val (.int bb), .val (.int cc), .unset, .unset, .unset, .unset, .unset, .unset] []))
  have bcc : 0 ≤ cc.toInt ∧ cc.toInt ≤ 31 := hcc ▸ c_and p2 31 (by decide)
  have hab := own_abi baa bbb
  refine s_bipush (pc' := 20) (z := (32 : Int32)) X0.here hx (hb hby at_18) rfl rfl ?_
  obtain ⟨T_125, h_125, k_125, X_125, e_125, Ex_125, A_125, EA_125, st_125⟩ := newPE X0 hx hZ (hw _ (List.mem_of_getElem? (i := 0) rfl)) e0 (g := (mkF m 20 #[.val (.int p0), .val (.int p1), .val (.int p2), .val (.int p3), .val (.int aa), .val (.int bb), .val (.int cc), .unset, .unset, .unset, .unset, .unset, .unset] [(.int (32 : Int32))])) rfl (hb hby at_20) rfl (by decide) (cap := 32) (by decide) (by decide) (by decide) (by decide) (ad := "[B") (by decide)
  obtain ⟨b_125, g_125⟩ : ∃ z, z = h0.size := ⟨_, rfl⟩
  have g_b_125 : n0 ≤ b_125 := Nat.le_trans Zs (Nat.le_of_eq g_125.symm)
  rw [← g_125] at A_125 EA_125 st_125
  replace Zs := Nat.le_trans Zs Ex_125.1
  have B_b_125 : BA Z h_125 b_125 (32 : Int32) := ⟨_, _, Arv.new A_125 (by decide)⟩
  have lt_b_125 := B_b_125.lt
  refine Win.go st_125 ?_
  clear st_125 Ex_125 A_125 EA_125 g_125 X0 e0
  show Win p.tables e below _ (T_125.setTop (mkF m 22 #[.val (.int p0), .val (.int p1), .val (.int p2), .val (.int p3), .val (.int aa), .val (.int bb), .val (.int cc), .unset, .unset, .unset, .unset, .unset, .unset] [(.ref b_125)]))
  refine s_astore (pc' := 24) (l' := #[.val (.int p0), .val (.int p1), .val (.int p2), .val (.int p3), .val (.int aa), .val (.int bb), .val (.int cc), .val (.ref b_125), .unset, .unset, .unset, .unset, .unset]) X_125.here hx (hb hby at_22) rfl rfl rfl ?_
  obtain ⟨T_126, h_126, X_126, e_126, Ex_126, A_126, D_126, -, st_126⟩ := newO X_125 hx hZ hown (hw _ (List.mem_of_getElem? (i := 1) rfl)) (hw _ (List.mem_of_getElem? (i := 2) rfl)) (hw _ (List.mem_of_getElem? (i := 3) rfl)) e_125 (g := (mkF m 24 #[.val (.int p0), .val (.int p1), .val (.int p2), .val (.int p3), .val (.int aa), .val (.int bb), .val (.int cc), .val (.ref b_125), .unset, .unset, .unset, .unset, .unset] [])) rfl (hb hby at_24) (by decide) (by decide)
  obtain ⟨b_126, g_126⟩ : ∃ z, z = h_125.size := ⟨_, rfl⟩
  have ne_b_125_b_126 : b_125 ≠ b_126 := Nat.ne_of_lt (Nat.lt_of_lt_of_le lt_b_125 (Nat.le_of_eq g_126.symm))
  have g_b_126 : n0 ≤ b_126 := Nat.le_trans Zs (Nat.le_of_eq g_126.symm)
  rw [← g_126] at A_126 D_126 st_126
  replace B_b_125 := B_b_125.ext Ex_126
  replace lt_b_125 := Nat.lt_of_lt_of_le lt_b_125 Ex_126.1
  replace Zs := Nat.le_trans Zs Ex_126.1
  have E_b_126 := A_126
  have lt_b_126 := E_b_126.lt
  have F_bytes_b_126 : Fld Z h_126 b_126 "com/example/nearstable/nearstable/files/StringBatch" "bytes" "[B" .null := D_126 (Or.inl (hw _ (List.mem_of_getElem? (i := 11) rfl))) (ty := (.array .byte)) (by decide)
  have F_ends_b_126 : Fld Z h_126 b_126 "com/example/nearstable/nearstable/files/StringBatch" "ends" "[I" .null := D_126 (Or.inl (hw _ (List.mem_of_getElem? (i := 14) rfl))) (ty := (.array .int)) (by decide)
  have F_lines_b_126 : Fld Z h_126 b_126 "com/example/nearstable/nearstable/files/StringBatch" "lines" "[I" .null := D_126 (Or.inl (hw _ (List.mem_of_getElem? (i := 16) rfl))) (ty := (.array .int)) (by decide)
  have F_ids_b_126 : Fld Z h_126 b_126 "com/example/nearstable/nearstable/files/StringBatch" "ids" "[I" .null := D_126 (Or.inl (hw _ (List.mem_of_getElem? (i := 18) rfl))) (ty := (.array .int)) (by decide)
  have F_count_b_126 : Fld Z h_126 b_126 "com/example/nearstable/nearstable/files/StringBatch" "count" "I" (.int (0 : Int32)) := D_126 (Or.inl (hw _ (List.mem_of_getElem? (i := 25) rfl))) (ty := .int) (by decide)
  refine Win.go st_126 ?_
  clear st_126 Ex_126 A_126 D_126 g_126 X_125 e_125
  show Win p.tables e below _ (T_126.setTop (mkF m 27 #[.val (.int p0), .val (.int p1), .val (.int p2), .val (.int p3), .val (.int aa), .val (.int bb), .val (.int cc), .val (.ref b_125), .unset, .unset, .unset, .unset, .unset] [(.ref b_126)]))
  refine s_dup (pc' := 28) X_126.here hx (hb hby at_27) rfl rfl ?_
  obtain ⟨_, _, ⟨T_127, L_127, k_127, n_127⟩, -, X_127, ⟨Lc_127, hQ_127, l_127, y_127, z_127⟩, st_127⟩ := X_126.specialBack hx (y := (⟨"com/example/nearstable/nearstable/files/StringBatch", "<init>", "()V"⟩ : MethodName)) rfl hown (mvT hZ (hw _ (List.mem_of_getElem? (i := 4) rfl))) (mvT hZ (hw _ (List.mem_of_getElem? (i := 5) rfl))) (mvT hZ (hw _ (List.mem_of_getElem? (i := 6) rfl))) (by decide) (backOf (W := 1) (rm1 l Z a0 hw [] b_126 h_126 n0 Zs E_b_126 F_bytes_b_126 F_ends_b_126 F_lines_b_126 F_ids_b_126 F_count_b_126 g_b_126) hZ (hw _ (List.mem_of_getElem? (i := 6) rfl)) (hw _ (List.mem_of_getElem? (i := 3) rfl)) (by decide) (by decide)) (g := (mkF m 28 #[.val (.int p0), .val (.int p1), .val (.int p2), .val (.int p3), .val (.int aa), .val (.int bb), .val (.int cc), .val (.ref b_125), .unset, .unset, .unset, .unset, .unset] [(.ref b_126), (.ref b_126)])) rfl (by rw [hml]; rfl) (Steps.refl _) (a := b_126) (argsL := []) (rest := [(.ref b_126)]) (lenOf pd_4 rfl) rfl (by show 2 * 0 + _ ≤ _; exact Nat.le_of_eq rfl) (hb hby at_28) (fun _ _ => ⟨rfl, e_126, (by decide : 2 + 4 ≤ _), (by decide : 37 + 64 ≤ _)⟩)
  dsimp only [Pt.U, Pt.locs, Pt.cells, Pt.slots] at X_127 l_127 y_127 z_127 st_127 hQ_127
  subst l_127 y_127 z_127
  obtain ⟨h_127, e_127⟩ : ∃ z, T_127.heap = z := ⟨_, rfl⟩
  rw [e_127] at hQ_127
  obtain ⟨Nq_127, K_127, ⟨bt_127, en_127, li_127, g_bt_127, so_bt_127, g_en_127, so_en_127, g_li_127, so_li_127, ne_bt_127_en_127, ne_bt_127_li_127, ne_en_127_li_127, n_127_F_bytes_b_126, n_127_F_ends_b_126, n_127_F_lines_b_126, n_127_F_count_b_126, n_127_B_bt_127, n_127_A_en_127, n_127_A_li_127⟩, rfl⟩ := hQ_127
  replace Nf := Fr.app Nf Nq_127
  have ne_b_125_bt_127 : b_125 ≠ bt_127 := Nat.ne_of_lt (Nat.lt_of_lt_of_le lt_b_125 so_bt_127)
  have ne_b_126_bt_127 : b_126 ≠ bt_127 := Nat.ne_of_lt (Nat.lt_of_lt_of_le lt_b_126 so_bt_127)
  have ne_b_125_en_127 : b_125 ≠ en_127 := Nat.ne_of_lt (Nat.lt_of_lt_of_le lt_b_125 so_en_127)
  have ne_b_126_en_127 : b_126 ≠ en_127 := Nat.ne_of_lt (Nat.lt_of_lt_of_le lt_b_126 so_en_127)
  have ne_b_125_li_127 : b_125 ≠ li_127 := Nat.ne_of_lt (Nat.lt_of_lt_of_le lt_b_125 so_li_127)
  have ne_b_126_li_127 : b_126 ≠ li_127 := Nat.ne_of_lt (Nat.lt_of_lt_of_le lt_b_126 so_li_127)
  replace B_b_125 := B_b_125.keep K_127 (ninS ne_b_125_b_126 nin0)
  replace E_b_126 := E_b_126.keep K_127
  clear F_bytes_b_126
  clear F_ends_b_126
  clear F_lines_b_126
  clear F_ids_b_126
  clear F_count_b_126
  replace lt_b_125 := Nat.lt_of_lt_of_le lt_b_125 K_127.1
  replace lt_b_126 := Nat.lt_of_lt_of_le lt_b_126 K_127.1
  replace Zs := Nat.le_trans Zs K_127.1
  have F_bytes_b_126 := n_127_F_bytes_b_126
  have F_ends_b_126 := n_127_F_ends_b_126
  have F_lines_b_126 := n_127_F_lines_b_126
  have F_count_b_126 := n_127_F_count_b_126
  have B_bt_127 := n_127_B_bt_127
  have A_en_127 := n_127_A_en_127
  have A_li_127 := n_127_A_li_127
  have lt_bt_127 := B_bt_127.lt
  have lt_en_127 := A_en_127.lt
  have lt_li_127 := A_li_127.lt
  refine Win.come st_127 ?_
  clear st_127 Nq_127 X_126 e_126 K_127
  show Win p.tables e below _ (T_127.setTop (mkF m 31 #[.val (.int p0), .val (.int p1), .val (.int p2), .val (.int p3), .val (.int aa), .val (.int bb), .val (.int cc), .val (.ref b_125), .unset, .unset, .unset, .unset, .unset] [(.ref b_126)]))
  refine s_astore (pc' := 33) (l' := #[.val (.int p0), .val (.int p1), .val (.int p2), .val (.int p3), .val (.int aa), .val (.int bb), .val (.int cc), .val (.ref b_125), .val (.ref b_126), .unset, .unset, .unset, .unset]) X_127.here hx (hb hby at_31) rfl rfl rfl ?_
  refine s_aload (pc' := 35) X_127.here hx (hb hby at_33) rfl rfl rfl ?_
  refine s_aload (pc' := 37) X_127.here hx (hb hby at_35) rfl rfl rfl ?_
  refine s_iload (pc' := 39) X_127.here hx (hb hby at_37) rfl rfl ?_
  refine s_iloadN (pc' := 40) X_127.here hx (hb hby at_39) rfl rfl ?_
  obtain ⟨cq_128, kq_128, q_128a, q_128b, q_128c⟩ := isOf hZ e_127 E_b_126
  obtain ⟨_, _, ⟨T_128, L_128, k_128, n_128⟩, -, X_128, ⟨Lc_128, hQ_128, l_128, y_128, z_128⟩, st_128⟩ := X_127.virtualBack hx (y := (⟨"com/example/nearstable/nearstable/files/StringBatch", "add", "([BII)V"⟩ : MethodName)) (z := (⟨"com/example/nearstable/nearstable/files/StringBatch", "add", "([BII)V"⟩ : MethodName)) hown (mvT hZ (hw _ (List.mem_of_getElem? (i := 19) rfl))) (mvT hZ (hw _ (List.mem_of_getElem? (i := 20) rfl))) (notFace_of_selects (args := #[]) (mvT hZ (hw _ (List.mem_of_getElem? (i := 22) rfl)))) (mvT hZ (hw _ (List.mem_of_getElem? (i := 22) rfl))) (mvT hZ (hw _ (List.mem_of_getElem? (i := 21) rfl))) (by decide) (backOf (W := 0) (rm3_0 l Z a0 hw [] b_126 b_125 aa p3 bt_127 en_127 li_127 (16 : Int32) (fun _ => 0) (fun _ => 0) h_127 n0 Zs E_b_126 F_bytes_b_126 F_ends_b_126 F_lines_b_126 F_count_b_126 B_bt_127 A_en_127 A_li_127 B_b_125 g_b_126 g_bt_127 g_en_127 g_li_127 ne_b_126_bt_127 ne_b_126_en_127 ne_b_126_li_127 (Ne.symm ne_b_125_b_126) ne_bt_127_en_127 ne_bt_127_li_127 (Ne.symm ne_b_125_bt_127) ne_en_127_li_127 (Ne.symm ne_b_125_en_127) (Ne.symm ne_b_125_li_127) ⟨baa.1, baa.2, by decide, by decide⟩ trivial) hZ (hw _ (List.mem_of_getElem? (i := 23) rfl)) (hw _ (List.mem_of_getElem? (i := 3) rfl)) (by decide) (by decide)) q_128a q_128c (g := (mkF m 40 #[.val (.int p0), .val (.int p1), .val (.int p2), .val (.int p3), .val (.int aa), .val (.int bb), .val (.int cc), .val (.ref b_125), .val (.ref b_126), .unset, .unset, .unset, .unset] [(.int p3), (.int aa), (.ref b_125), (.ref b_126)])) rfl (by rw [hml]; rfl) (Steps.refl _) (argsL := [(.ref b_125), (.int aa), (.int p3)]) (rest := []) (lenOf pd_5 rfl) rfl (by show 2 * 0 + _ ≤ _; exact Nat.le_of_eq rfl) (hb hby at_40) (fun _ _ => ⟨rfl, e_127, (by decide : 6 + 1 ≤ _), (by decide : 101 + 128 ≤ _)⟩)
  dsimp only [Pt.U, Pt.locs, Pt.cells, Pt.slots] at X_128 l_128 y_128 z_128 st_128 hQ_128
  subst l_128 y_128 z_128
  obtain ⟨h_128, e_128⟩ : ∃ z, T_128.heap = z := ⟨_, rfl⟩
  rw [e_128] at hQ_128
  obtain ⟨Nq_128, K_128, ⟨bt2_128, z2_128, g_bt2_128, ne_bt2_128_en_127, ne_bt2_128_li_127, ne_bt2_128_b_126, ne_bt2_128_b_125, hq_128_0, n_128_F_bytes_b_126, n_128_F_ends_b_126, n_128_F_lines_b_126, n_128_F_count_b_126, n_128_B_bt2_128, n_128_A_en_127, n_128_A_li_127⟩, rfl⟩ := hQ_128
  replace Nf := Fr.app Nf Nq_128
  replace B_b_125 := B_b_125.keep K_128 (ninS ne_b_125_b_126 (ninS ne_b_125_bt_127 (ninS ne_b_125_en_127 (ninS ne_b_125_li_127 nin0))))
  replace E_b_126 := E_b_126.keep K_128
  clear F_bytes_b_126
  clear F_ends_b_126
  clear F_lines_b_126
  clear F_count_b_126
  clear B_bt_127
  clear A_en_127
  clear A_li_127
  replace lt_b_125 := Nat.lt_of_lt_of_le lt_b_125 K_128.1
  replace lt_b_126 := Nat.lt_of_lt_of_le lt_b_126 K_128.1
  replace lt_bt_127 := Nat.lt_of_lt_of_le lt_bt_127 K_128.1
  replace lt_en_127 := Nat.lt_of_lt_of_le lt_en_127 K_128.1
  replace lt_li_127 := Nat.lt_of_lt_of_le lt_li_127 K_128.1
  replace Zs := Nat.le_trans Zs K_128.1
  have F_bytes_b_126 := n_128_F_bytes_b_126
  have F_ends_b_126 := n_128_F_ends_b_126
  have F_lines_b_126 := n_128_F_lines_b_126
  have F_count_b_126 := n_128_F_count_b_126
  have B_bt2_128 := n_128_B_bt2_128
  have A_en_127 := n_128_A_en_127
  have A_li_127 := n_128_A_li_127
  have lt_bt2_128 := B_bt2_128.lt
  refine Win.come st_128 ?_
  clear st_128 Nq_128 X_127 e_127 K_128
  show Win p.tables e below _ (T_128.setTop (mkF m 43 #[.val (.int p0), .val (.int p1), .val (.int p2), .val (.int p3), .val (.int aa), .val (.int bb), .val (.int cc), .val (.ref b_125), .val (.ref b_126), .unset, .unset, .unset, .unset] []))
  refine s_aload (pc' := 45) X_128.here hx (hb hby at_43) rfl rfl rfl ?_
  refine s_aload (pc' := 47) X_128.here hx (hb hby at_45) rfl rfl rfl ?_
  refine s_iload (pc' := 49) X_128.here hx (hb hby at_47) rfl rfl ?_
  refine s_iloadN (pc' := 50) X_128.here hx (hb hby at_49) rfl rfl ?_
  obtain ⟨cq_129, kq_129, q_129a, q_129b, q_129c⟩ := isOf hZ e_128 E_b_126
  obtain ⟨_, _, ⟨T_129, L_129, k_129, n_129⟩, -, X_129, ⟨Lc_129, hQ_129, l_129, y_129, z_129⟩, st_129⟩ := X_128.virtualBack hx (y := (⟨"com/example/nearstable/nearstable/files/StringBatch", "add", "([BII)V"⟩ : MethodName)) (z := (⟨"com/example/nearstable/nearstable/files/StringBatch", "add", "([BII)V"⟩ : MethodName)) hown (mvT hZ (hw _ (List.mem_of_getElem? (i := 19) rfl))) (mvT hZ (hw _ (List.mem_of_getElem? (i := 20) rfl))) (notFace_of_selects (args := #[]) (mvT hZ (hw _ (List.mem_of_getElem? (i := 22) rfl)))) (mvT hZ (hw _ (List.mem_of_getElem? (i := 22) rfl))) (mvT hZ (hw _ (List.mem_of_getElem? (i := 21) rfl))) (by decide) (backOf (W := 0) (rm3_1 l Z a0 hw [] b_126 b_125 bb p0 bt2_128 en_127 li_127 z2_128 (updF (fun _ => 0) (0 : Int) ((0 : Int32) + aa)) (updF (fun _ => 0) (0 : Int) p3) h_128 n0 Zs E_b_126 F_bytes_b_126 F_ends_b_126 F_lines_b_126 F_count_b_126 B_bt2_128 A_en_127 A_li_127 B_b_125 g_b_126 g_bt2_128 g_en_127 g_li_127 (Ne.symm ne_bt2_128_b_126) ne_b_126_en_127 ne_b_126_li_127 (Ne.symm ne_b_125_b_126) ne_bt2_128_en_127 ne_bt2_128_li_127 ne_bt2_128_b_125 ne_en_127_li_127 (Ne.symm ne_b_125_en_127) (Ne.symm ne_b_125_li_127) ⟨bbb.1, bbb.2, by assumption⟩ (by simp only [updF_hit, own_zadd]; exact baa)) hZ (hw _ (List.mem_of_getElem? (i := 23) rfl)) (hw _ (List.mem_of_getElem? (i := 3) rfl)) (by decide) (by decide)) q_129a q_129c (g := (mkF m 50 #[.val (.int p0), .val (.int p1), .val (.int p2), .val (.int p3), .val (.int aa), .val (.int bb), .val (.int cc), .val (.ref b_125), .val (.ref b_126), .unset, .unset, .unset, .unset] [(.int p0), (.int bb), (.ref b_125), (.ref b_126)])) rfl (by rw [hml]; rfl) (Steps.refl _) (argsL := [(.ref b_125), (.int bb), (.int p0)]) (rest := []) (lenOf pd_5 rfl) rfl (by show 2 * 0 + _ ≤ _; exact Nat.le_of_eq rfl) (hb hby at_50) (fun _ _ => ⟨rfl, e_128, (by decide : 7 + 1 ≤ _), (by decide : 229 + 128 ≤ _)⟩)
  dsimp only [Pt.U, Pt.locs, Pt.cells, Pt.slots] at X_129 l_129 y_129 z_129 st_129 hQ_129
  subst l_129 y_129 z_129
  obtain ⟨h_129, e_129⟩ : ∃ z, T_129.heap = z := ⟨_, rfl⟩
  rw [e_129] at hQ_129
  obtain ⟨Nq_129, K_129, ⟨bt2_129, z2_129, g_bt2_129, ne_bt2_129_en_127, ne_bt2_129_li_127, ne_bt2_129_b_126, ne_bt2_129_b_125, hq_129_0, n_129_F_bytes_b_126, n_129_F_ends_b_126, n_129_F_lines_b_126, n_129_F_count_b_126, n_129_B_bt2_129, n_129_A_en_127, n_129_A_li_127⟩, rfl⟩ := hQ_129
  replace Nf := Fr.app Nf Nq_129
  replace B_b_125 := B_b_125.keep K_129 (ninS ne_b_125_b_126 (ninS (Ne.symm ne_bt2_128_b_125) (ninS ne_b_125_en_127 (ninS ne_b_125_li_127 nin0))))
  replace E_b_126 := E_b_126.keep K_129
  clear F_bytes_b_126
  clear F_ends_b_126
  clear F_lines_b_126
  clear F_count_b_126
  clear B_bt2_128
  clear A_en_127
  clear A_li_127
  replace lt_b_125 := Nat.lt_of_lt_of_le lt_b_125 K_129.1
  replace lt_b_126 := Nat.lt_of_lt_of_le lt_b_126 K_129.1
  replace lt_bt_127 := Nat.lt_of_lt_of_le lt_bt_127 K_129.1
  replace lt_en_127 := Nat.lt_of_lt_of_le lt_en_127 K_129.1
  replace lt_li_127 := Nat.lt_of_lt_of_le lt_li_127 K_129.1
  replace lt_bt2_128 := Nat.lt_of_lt_of_le lt_bt2_128 K_129.1
  replace Zs := Nat.le_trans Zs K_129.1
  have F_bytes_b_126 := n_129_F_bytes_b_126
  have F_ends_b_126 := n_129_F_ends_b_126
  have F_lines_b_126 := n_129_F_lines_b_126
  have F_count_b_126 := n_129_F_count_b_126
  have B_bt2_129 := n_129_B_bt2_129
  have A_en_127 := n_129_A_en_127
  have A_li_127 := n_129_A_li_127
  have lt_bt2_129 := B_bt2_129.lt
  refine Win.come st_129 ?_
  clear st_129 Nq_129 X_128 e_128 K_129
  show Win p.tables e below _ (T_129.setTop (mkF m 53 #[.val (.int p0), .val (.int p1), .val (.int p2), .val (.int p3), .val (.int aa), .val (.int bb), .val (.int cc), .val (.ref b_125), .val (.ref b_126), .unset, .unset, .unset, .unset] []))
  refine s_aload (pc' := 55) X_129.here hx (hb hby at_53) rfl rfl rfl ?_
  refine s_aload (pc' := 57) X_129.here hx (hb hby at_55) rfl rfl rfl ?_
  refine s_iload (pc' := 59) X_129.here hx (hb hby at_57) rfl rfl ?_
  refine s_iloadN (pc' := 60) X_129.here hx (hb hby at_59) rfl rfl ?_
  obtain ⟨cq_130, kq_130, q_130a, q_130b, q_130c⟩ := isOf hZ e_129 E_b_126
  obtain ⟨_, _, ⟨T_130, L_130, k_130, n_130⟩, -, X_130, ⟨Lc_130, hQ_130, l_130, y_130, z_130⟩, st_130⟩ := X_129.virtualBack hx (y := (⟨"com/example/nearstable/nearstable/files/StringBatch", "add", "([BII)V"⟩ : MethodName)) (z := (⟨"com/example/nearstable/nearstable/files/StringBatch", "add", "([BII)V"⟩ : MethodName)) hown (mvT hZ (hw _ (List.mem_of_getElem? (i := 19) rfl))) (mvT hZ (hw _ (List.mem_of_getElem? (i := 20) rfl))) (notFace_of_selects (args := #[]) (mvT hZ (hw _ (List.mem_of_getElem? (i := 22) rfl)))) (mvT hZ (hw _ (List.mem_of_getElem? (i := 22) rfl))) (mvT hZ (hw _ (List.mem_of_getElem? (i := 21) rfl))) (by decide) (backOf (W := 0) (rm3_2 l Z a0 hw [] b_126 b_125 cc p1 bt2_129 en_127 li_127 z2_129 (updF (updF (fun _ => 0) (0 : Int) ((0 : Int32) + aa)) (1 : Int) (((updF (fun _ => 0) (0 : Int) ((0 : Int32) + aa)) (0 : Int)) + bb)) (updF (updF (fun _ => 0) (0 : Int) p3) (1 : Int) p0) h_129 n0 Zs E_b_126 F_bytes_b_126 F_ends_b_126 F_lines_b_126 F_count_b_126 B_bt2_129 A_en_127 A_li_127 B_b_125 g_b_126 g_bt2_129 g_en_127 g_li_127 (Ne.symm ne_bt2_129_b_126) ne_b_126_en_127 ne_b_126_li_127 (Ne.symm ne_b_125_b_126) ne_bt2_129_en_127 ne_bt2_129_li_127 ne_bt2_129_b_125 ne_en_127_li_127 (Ne.symm ne_b_125_en_127) (Ne.symm ne_b_125_li_127) ⟨bcc.1, bcc.2, by assumption⟩ (by simp only [updF_hit, own_zadd]; exact hab)) hZ (hw _ (List.mem_of_getElem? (i := 23) rfl)) (hw _ (List.mem_of_getElem? (i := 3) rfl)) (by decide) (by decide)) q_130a q_130c (g := (mkF m 60 #[.val (.int p0), .val (.int p1), .val (.int p2), .val (.int p3), .val (.int aa), .val (.int bb), .val (.int cc), .val (.ref b_125), .val (.ref b_126), .unset, .unset, .unset, .unset] [(.int p1), (.int cc), (.ref b_125), (.ref b_126)])) rfl (by rw [hml]; rfl) (Steps.refl _) (argsL := [(.ref b_125), (.int cc), (.int p1)]) (rest := []) (lenOf pd_5 rfl) rfl (by show 2 * 0 + _ ≤ _; exact Nat.le_of_eq rfl) (hb hby at_60) (fun _ _ => ⟨rfl, e_129, (by decide : 8 + 1 ≤ _), (by decide : 357 + 128 ≤ _)⟩)
  dsimp only [Pt.U, Pt.locs, Pt.cells, Pt.slots] at X_130 l_130 y_130 z_130 st_130 hQ_130
  subst l_130 y_130 z_130
  obtain ⟨h_130, e_130⟩ : ∃ z, T_130.heap = z := ⟨_, rfl⟩
  rw [e_130] at hQ_130
  obtain ⟨Nq_130, K_130, ⟨bt2_130, z2_130, g_bt2_130, ne_bt2_130_en_127, ne_bt2_130_li_127, ne_bt2_130_b_126, ne_bt2_130_b_125, hq_130_0, n_130_F_bytes_b_126, n_130_F_ends_b_126, n_130_F_lines_b_126, n_130_F_count_b_126, n_130_B_bt2_130, n_130_A_en_127, n_130_A_li_127⟩, rfl⟩ := hQ_130
  replace Nf := Fr.app Nf Nq_130
  replace B_b_125 := B_b_125.keep K_130 (ninS ne_b_125_b_126 (ninS (Ne.symm ne_bt2_129_b_125) (ninS ne_b_125_en_127 (ninS ne_b_125_li_127 nin0))))
  replace E_b_126 := E_b_126.keep K_130
  clear F_bytes_b_126
  clear F_ends_b_126
  clear F_lines_b_126
  clear F_count_b_126
  clear B_bt2_129
  clear A_en_127
  clear A_li_127
  replace lt_b_125 := Nat.lt_of_lt_of_le lt_b_125 K_130.1
  replace lt_b_126 := Nat.lt_of_lt_of_le lt_b_126 K_130.1
  replace lt_bt_127 := Nat.lt_of_lt_of_le lt_bt_127 K_130.1
  replace lt_en_127 := Nat.lt_of_lt_of_le lt_en_127 K_130.1
  replace lt_li_127 := Nat.lt_of_lt_of_le lt_li_127 K_130.1
  replace lt_bt2_128 := Nat.lt_of_lt_of_le lt_bt2_128 K_130.1
  replace lt_bt2_129 := Nat.lt_of_lt_of_le lt_bt2_129 K_130.1
  replace Zs := Nat.le_trans Zs K_130.1
  have F_bytes_b_126 := n_130_F_bytes_b_126
  have F_ends_b_126 := n_130_F_ends_b_126
  have F_lines_b_126 := n_130_F_lines_b_126
  have F_count_b_126 := n_130_F_count_b_126
  have B_bt2_130 := n_130_B_bt2_130
  have A_en_127 := n_130_A_en_127
  have A_li_127 := n_130_A_li_127
  have lt_bt2_130 := B_bt2_130.lt
  refine Win.come st_130 ?_
  clear st_130 Nq_130 X_129 e_129 K_130
  show Win p.tables e below _ (T_130.setTop (mkF m 63 #[.val (.int p0), .val (.int p1), .val (.int p2), .val (.int p3), .val (.int aa), .val (.int bb), .val (.int cc), .val (.ref b_125), .val (.ref b_126), .unset, .unset, .unset, .unset] []))
  refine s_aload (pc' := 65) X_130.here hx (hb hby at_63) rfl rfl rfl ?_
  refine s_iconst (pc' := 66) (z := (0 : Int32)) X_130.here hx (hb hby at_65) rfl rfl ?_
  obtain ⟨cq_131, kq_131, q_131a, q_131b, q_131c⟩ := isOf hZ e_130 E_b_126
  obtain ⟨_, _, ⟨T_131, L_131, k_131, n_131⟩, -, X_131, ⟨Lc_131, hQ_131, l_131, y_131, z_131⟩, st_131⟩ := X_130.virtualBack hx (y := (⟨"com/example/nearstable/nearstable/files/StringBatch", "start", "(I)I"⟩ : MethodName)) (z := (⟨"com/example/nearstable/nearstable/files/StringBatch", "start", "(I)I"⟩ : MethodName)) hown (mvT hZ (hw _ (List.mem_of_getElem? (i := 36) rfl))) (mvT hZ (hw _ (List.mem_of_getElem? (i := 27) rfl))) (notFace_of_selects (args := #[]) (mvT hZ (hw _ (List.mem_of_getElem? (i := 29) rfl)))) (mvT hZ (hw _ (List.mem_of_getElem? (i := 29) rfl))) (mvT hZ (hw _ (List.mem_of_getElem? (i := 28) rfl))) (by decide) (backOf (W := 0) (rm4_0 l Z a0 hw [] b_126 h_130 n0 Zs ) hZ (hw _ (List.mem_of_getElem? (i := 30) rfl)) (hw _ (List.mem_of_getElem? (i := 3) rfl)) (by decide) (by decide)) q_131a q_131c (g := (mkF m 66 #[.val (.int p0), .val (.int p1), .val (.int p2), .val (.int p3), .val (.int aa), .val (.int bb), .val (.int cc), .val (.ref b_125), .val (.ref b_126), .unset, .unset, .unset, .unset] [(.int (0 : Int32)), (.ref b_126)])) rfl (by rw [hml]; rfl) (Steps.refl _) (argsL := [(.int (0 : Int32))]) (rest := []) (lenOf pd_2 rfl) rfl (by show 2 * 0 + _ ≤ _; exact Nat.le_of_eq rfl) (hb hby at_66) (fun _ _ => ⟨rfl, e_130, (by decide : 9 + 0 ≤ _), (by decide : 485 + 0 ≤ _)⟩)
  dsimp only [Pt.U, Pt.locs, Pt.cells, Pt.slots] at X_131 l_131 y_131 z_131 st_131 hQ_131
  subst l_131 y_131 z_131
  obtain ⟨Nq_131, e_131, rfl⟩ := hQ_131
  replace Nf := Fr.app Nf Nq_131
  refine Win.come st_131 ?_
  clear st_131 Nq_131 X_130 e_130
  show Win p.tables e below _ (T_131.setTop (mkF m 69 #[.val (.int p0), .val (.int p1), .val (.int p2), .val (.int p3), .val (.int aa), .val (.int bb), .val (.int cc), .val (.ref b_125), .val (.ref b_126), .unset, .unset, .unset, .unset] [(.int (0 : Int32))]))
  refine s_istore (pc' := 71) (l' := #[.val (.int p0), .val (.int p1), .val (.int p2), .val (.int p3), .val (.int aa), .val (.int bb), .val (.int cc), .val (.ref b_125), .val (.ref b_126), .val (.int (0 : Int32)), .unset, .unset, .unset]) X_131.here hx (hb hby at_69) rfl rfl ?_
  refine s_aload (pc' := 73) X_131.here hx (hb hby at_71) rfl rfl rfl ?_
  refine s_iconst (pc' := 74) (z := (1 : Int32)) X_131.here hx (hb hby at_73) rfl rfl ?_
  obtain ⟨cq_132, kq_132, q_132a, q_132b, q_132c⟩ := isOf hZ e_131 E_b_126
  obtain ⟨_, _, ⟨T_132, L_132, k_132, n_132⟩, -, X_132, ⟨Lc_132, hQ_132, l_132, y_132, z_132⟩, st_132⟩ := X_131.virtualBack hx (y := (⟨"com/example/nearstable/nearstable/files/StringBatch", "start", "(I)I"⟩ : MethodName)) (z := (⟨"com/example/nearstable/nearstable/files/StringBatch", "start", "(I)I"⟩ : MethodName)) hown (mvT hZ (hw _ (List.mem_of_getElem? (i := 36) rfl))) (mvT hZ (hw _ (List.mem_of_getElem? (i := 27) rfl))) (notFace_of_selects (args := #[]) (mvT hZ (hw _ (List.mem_of_getElem? (i := 29) rfl)))) (mvT hZ (hw _ (List.mem_of_getElem? (i := 29) rfl))) (mvT hZ (hw _ (List.mem_of_getElem? (i := 28) rfl))) (by decide) (backOf (W := 0) (rm4_1 l Z a0 hw [] b_126 en_127 (updF (updF (updF (fun _ => 0) (0 : Int) ((0 : Int32) + aa)) (1 : Int) (((updF (fun _ => 0) (0 : Int) ((0 : Int32) + aa)) (0 : Int)) + bb)) (2 : Int) (((updF (updF (fun _ => 0) (0 : Int) ((0 : Int32) + aa)) (1 : Int) (((updF (fun _ => 0) (0 : Int) ((0 : Int32) + aa)) (0 : Int)) + bb)) (1 : Int)) + cc)) h_130 n0 Zs F_ends_b_126 A_en_127) hZ (hw _ (List.mem_of_getElem? (i := 30) rfl)) (hw _ (List.mem_of_getElem? (i := 3) rfl)) (by decide) (by decide)) q_132a q_132c (g := (mkF m 74 #[.val (.int p0), .val (.int p1), .val (.int p2), .val (.int p3), .val (.int aa), .val (.int bb), .val (.int cc), .val (.ref b_125), .val (.ref b_126), .val (.int (0 : Int32)), .unset, .unset, .unset] [(.int (1 : Int32)), (.ref b_126)])) rfl (by rw [hml]; rfl) (Steps.refl _) (argsL := [(.int (1 : Int32))]) (rest := []) (lenOf pd_2 rfl) rfl (by show 2 * 0 + _ ≤ _; exact Nat.le_of_eq rfl) (hb hby at_74) (fun _ _ => ⟨rfl, e_131, (by decide : 9 + 0 ≤ _), (by decide : 485 + 0 ≤ _)⟩)
  dsimp only [Pt.U, Pt.locs, Pt.cells, Pt.slots] at X_132 l_132 y_132 z_132 st_132 hQ_132
  subst l_132 y_132 z_132
  obtain ⟨Nq_132, e_132, rfl⟩ := hQ_132
  replace Nf := Fr.app Nf Nq_132
  refine Win.come st_132 ?_
  clear st_132 Nq_132 X_131 e_131
  show Win p.tables e below _ (T_132.setTop (mkF m 77 #[.val (.int p0), .val (.int p1), .val (.int p2), .val (.int p3), .val (.int aa), .val (.int bb), .val (.int cc), .val (.ref b_125), .val (.ref b_126), .val (.int (0 : Int32)), .unset, .unset, .unset] [(.int ((updF (updF (updF (fun _ => 0) (0 : Int) ((0 : Int32) + aa)) (1 : Int) (((updF (fun _ => 0) (0 : Int) ((0 : Int32) + aa)) (0 : Int)) + bb)) (2 : Int) (((updF (updF (fun _ => 0) (0 : Int) ((0 : Int32) + aa)) (1 : Int) (((updF (fun _ => 0) (0 : Int) ((0 : Int32) + aa)) (0 : Int)) + bb)) (1 : Int)) + cc)) (0 : Int)))]))
  refine s_istore (pc' := 79) (l' := #[.val (.int p0), .val (.int p1), .val (.int p2), .val (.int p3), .val (.int aa), .val (.int bb), .val (.int cc), .val (.ref b_125), .val (.ref b_126), .val (.int (0 : Int32)), .val (.int ((updF (updF (updF (fun _ => 0) (0 : Int) ((0 : Int32) + aa)) (1 : Int) (((updF (fun _ => 0) (0 : Int) ((0 : Int32) + aa)) (0 : Int)) + bb)) (2 : Int) (((updF (updF (fun _ => 0) (0 : Int) ((0 : Int32) + aa)) (1 : Int) (((updF (fun _ => 0) (0 : Int) ((0 : Int32) + aa)) (0 : Int)) + bb)) (1 : Int)) + cc)) (0 : Int))), .unset, .unset]) X_132.here hx (hb hby at_77) rfl rfl ?_
  refine s_aload (pc' := 81) X_132.here hx (hb hby at_79) rfl rfl rfl ?_
  refine s_iconst (pc' := 82) (z := (2 : Int32)) X_132.here hx (hb hby at_81) rfl rfl ?_
  obtain ⟨cq_133, kq_133, q_133a, q_133b, q_133c⟩ := isOf hZ e_132 E_b_126
  obtain ⟨_, _, ⟨T_133, L_133, k_133, n_133⟩, -, X_133, ⟨Lc_133, hQ_133, l_133, y_133, z_133⟩, st_133⟩ := X_132.virtualBack hx (y := (⟨"com/example/nearstable/nearstable/files/StringBatch", "start", "(I)I"⟩ : MethodName)) (z := (⟨"com/example/nearstable/nearstable/files/StringBatch", "start", "(I)I"⟩ : MethodName)) hown (mvT hZ (hw _ (List.mem_of_getElem? (i := 36) rfl))) (mvT hZ (hw _ (List.mem_of_getElem? (i := 27) rfl))) (notFace_of_selects (args := #[]) (mvT hZ (hw _ (List.mem_of_getElem? (i := 29) rfl)))) (mvT hZ (hw _ (List.mem_of_getElem? (i := 29) rfl))) (mvT hZ (hw _ (List.mem_of_getElem? (i := 28) rfl))) (by decide) (backOf (W := 0) (rm4_2 l Z a0 hw [] b_126 en_127 (updF (updF (updF (fun _ => 0) (0 : Int) ((0 : Int32) + aa)) (1 : Int) (((updF (fun _ => 0) (0 : Int) ((0 : Int32) + aa)) (0 : Int)) + bb)) (2 : Int) (((updF (updF (fun _ => 0) (0 : Int) ((0 : Int32) + aa)) (1 : Int) (((updF (fun _ => 0) (0 : Int) ((0 : Int32) + aa)) (0 : Int)) + bb)) (1 : Int)) + cc)) h_130 n0 Zs F_ends_b_126 A_en_127) hZ (hw _ (List.mem_of_getElem? (i := 30) rfl)) (hw _ (List.mem_of_getElem? (i := 3) rfl)) (by decide) (by decide)) q_133a q_133c (g := (mkF m 82 #[.val (.int p0), .val (.int p1), .val (.int p2), .val (.int p3), .val (.int aa), .val (.int bb), .val (.int cc), .val (.ref b_125), .val (.ref b_126), .val (.int (0 : Int32)), .val (.int ((updF (updF (updF (fun _ => 0) (0 : Int) ((0 : Int32) + aa)) (1 : Int) (((updF (fun _ => 0) (0 : Int) ((0 : Int32) + aa)) (0 : Int)) + bb)) (2 : Int) (((updF (updF (fun _ => 0) (0 : Int) ((0 : Int32) + aa)) (1 : Int) (((updF (fun _ => 0) (0 : Int) ((0 : Int32) + aa)) (0 : Int)) + bb)) (1 : Int)) + cc)) (0 : Int))), .unset, .unset] [(.int (2 : Int32)), (.ref b_126)])) rfl (by rw [hml]; rfl) (Steps.refl _) (argsL := [(.int (2 : Int32))]) (rest := []) (lenOf pd_2 rfl) rfl (by show 2 * 0 + _ ≤ _; exact Nat.le_of_eq rfl) (hb hby at_82) (fun _ _ => ⟨rfl, e_132, (by decide : 9 + 0 ≤ _), (by decide : 485 + 0 ≤ _)⟩)
  dsimp only [Pt.U, Pt.locs, Pt.cells, Pt.slots] at X_133 l_133 y_133 z_133 st_133 hQ_133
  subst l_133 y_133 z_133
  obtain ⟨Nq_133, e_133, rfl⟩ := hQ_133
  replace Nf := Fr.app Nf Nq_133
  refine Win.come st_133 ?_
  clear st_133 Nq_133 X_132 e_132
  show Win p.tables e below _ (T_133.setTop (mkF m 85 #[.val (.int p0), .val (.int p1), .val (.int p2), .val (.int p3), .val (.int aa), .val (.int bb), .val (.int cc), .val (.ref b_125), .val (.ref b_126), .val (.int (0 : Int32)), .val (.int ((updF (updF (updF (fun _ => 0) (0 : Int) ((0 : Int32) + aa)) (1 : Int) (((updF (fun _ => 0) (0 : Int) ((0 : Int32) + aa)) (0 : Int)) + bb)) (2 : Int) (((updF (updF (fun _ => 0) (0 : Int) ((0 : Int32) + aa)) (1 : Int) (((updF (fun _ => 0) (0 : Int) ((0 : Int32) + aa)) (0 : Int)) + bb)) (1 : Int)) + cc)) (0 : Int))), .unset, .unset] [(.int ((updF (updF (updF (fun _ => 0) (0 : Int) ((0 : Int32) + aa)) (1 : Int) (((updF (fun _ => 0) (0 : Int) ((0 : Int32) + aa)) (0 : Int)) + bb)) (2 : Int) (((updF (updF (fun _ => 0) (0 : Int) ((0 : Int32) + aa)) (1 : Int) (((updF (fun _ => 0) (0 : Int) ((0 : Int32) + aa)) (0 : Int)) + bb)) (1 : Int)) + cc)) (1 : Int)))]))
  refine s_istore (pc' := 87) (l' := #[.val (.int p0), .val (.int p1), .val (.int p2), .val (.int p3), .val (.int aa), .val (.int bb), .val (.int cc), .val (.ref b_125), .val (.ref b_126), .val (.int (0 : Int32)), .val (.int ((updF (updF (updF (fun _ => 0) (0 : Int) ((0 : Int32) + aa)) (1 : Int) (((updF (fun _ => 0) (0 : Int) ((0 : Int32) + aa)) (0 : Int)) + bb)) (2 : Int) (((updF (updF (fun _ => 0) (0 : Int) ((0 : Int32) + aa)) (1 : Int) (((updF (fun _ => 0) (0 : Int) ((0 : Int32) + aa)) (0 : Int)) + bb)) (1 : Int)) + cc)) (0 : Int))), .val (.int ((updF (updF (updF (fun _ => 0) (0 : Int) ((0 : Int32) + aa)) (1 : Int) (((updF (fun _ => 0) (0 : Int) ((0 : Int32) + aa)) (0 : Int)) + bb)) (2 : Int) (((updF (updF (fun _ => 0) (0 : Int) ((0 : Int32) + aa)) (1 : Int) (((updF (fun _ => 0) (0 : Int) ((0 : Int32) + aa)) (0 : Int)) + bb)) (1 : Int)) + cc)) (1 : Int))), .unset]) X_133.here hx (hb hby at_85) rfl rfl ?_
  refine s_aload (pc' := 89) X_133.here hx (hb hby at_87) rfl rfl rfl ?_
  refine s_iconst (pc' := 90) (z := (3 : Int32)) X_133.here hx (hb hby at_89) rfl rfl ?_
  obtain ⟨cq_134, kq_134, q_134a, q_134b, q_134c⟩ := isOf hZ e_133 E_b_126
  obtain ⟨_, _, ⟨T_134, L_134, k_134, n_134⟩, -, X_134, ⟨Lc_134, hQ_134, l_134, y_134, z_134⟩, st_134⟩ := X_133.virtualBack hx (y := (⟨"com/example/nearstable/nearstable/files/StringBatch", "start", "(I)I"⟩ : MethodName)) (z := (⟨"com/example/nearstable/nearstable/files/StringBatch", "start", "(I)I"⟩ : MethodName)) hown (mvT hZ (hw _ (List.mem_of_getElem? (i := 36) rfl))) (mvT hZ (hw _ (List.mem_of_getElem? (i := 27) rfl))) (notFace_of_selects (args := #[]) (mvT hZ (hw _ (List.mem_of_getElem? (i := 29) rfl)))) (mvT hZ (hw _ (List.mem_of_getElem? (i := 29) rfl))) (mvT hZ (hw _ (List.mem_of_getElem? (i := 28) rfl))) (by decide) (backOf (W := 0) (rm4_3 l Z a0 hw [] b_126 en_127 (updF (updF (updF (fun _ => 0) (0 : Int) ((0 : Int32) + aa)) (1 : Int) (((updF (fun _ => 0) (0 : Int) ((0 : Int32) + aa)) (0 : Int)) + bb)) (2 : Int) (((updF (updF (fun _ => 0) (0 : Int) ((0 : Int32) + aa)) (1 : Int) (((updF (fun _ => 0) (0 : Int) ((0 : Int32) + aa)) (0 : Int)) + bb)) (1 : Int)) + cc)) h_130 n0 Zs F_ends_b_126 A_en_127) hZ (hw _ (List.mem_of_getElem? (i := 30) rfl)) (hw _ (List.mem_of_getElem? (i := 3) rfl)) (by decide) (by decide)) q_134a q_134c (g := (mkF m 90 #[.val (.int p0), .val (.int p1), .val (.int p2), .val (.int p3), .val (.int aa), .val (.int bb), .val (.int cc), .val (.ref b_125), .val (.ref b_126), .val (.int (0 : Int32)), .val (.int ((updF (updF (updF (fun _ => 0) (0 : Int) ((0 : Int32) + aa)) (1 : Int) (((updF (fun _ => 0) (0 : Int) ((0 : Int32) + aa)) (0 : Int)) + bb)) (2 : Int) (((updF (updF (fun _ => 0) (0 : Int) ((0 : Int32) + aa)) (1 : Int) (((updF (fun _ => 0) (0 : Int) ((0 : Int32) + aa)) (0 : Int)) + bb)) (1 : Int)) + cc)) (0 : Int))), .val (.int ((updF (updF (updF (fun _ => 0) (0 : Int) ((0 : Int32) + aa)) (1 : Int) (((updF (fun _ => 0) (0 : Int) ((0 : Int32) + aa)) (0 : Int)) + bb)) (2 : Int) (((updF (updF (fun _ => 0) (0 : Int) ((0 : Int32) + aa)) (1 : Int) (((updF (fun _ => 0) (0 : Int) ((0 : Int32) + aa)) (0 : Int)) + bb)) (1 : Int)) + cc)) (1 : Int))), .unset] [(.int (3 : Int32)), (.ref b_126)])) rfl (by rw [hml]; rfl) (Steps.refl _) (argsL := [(.int (3 : Int32))]) (rest := []) (lenOf pd_2 rfl) rfl (by show 2 * 0 + _ ≤ _; exact Nat.le_of_eq rfl) (hb hby at_90) (fun _ _ => ⟨rfl, e_133, (by decide : 9 + 0 ≤ _), (by decide : 485 + 0 ≤ _)⟩)
  dsimp only [Pt.U, Pt.locs, Pt.cells, Pt.slots] at X_134 l_134 y_134 z_134 st_134 hQ_134
  subst l_134 y_134 z_134
  obtain ⟨Nq_134, e_134, rfl⟩ := hQ_134
  replace Nf := Fr.app Nf Nq_134
  refine Win.come st_134 ?_
  clear st_134 Nq_134 X_133 e_133
  show Win p.tables e below _ (T_134.setTop (mkF m 93 #[.val (.int p0), .val (.int p1), .val (.int p2), .val (.int p3), .val (.int aa), .val (.int bb), .val (.int cc), .val (.ref b_125), .val (.ref b_126), .val (.int (0 : Int32)), .val (.int ((updF (updF (updF (fun _ => 0) (0 : Int) ((0 : Int32) + aa)) (1 : Int) (((updF (fun _ => 0) (0 : Int) ((0 : Int32) + aa)) (0 : Int)) + bb)) (2 : Int) (((updF (updF (fun _ => 0) (0 : Int) ((0 : Int32) + aa)) (1 : Int) (((updF (fun _ => 0) (0 : Int) ((0 : Int32) + aa)) (0 : Int)) + bb)) (1 : Int)) + cc)) (0 : Int))), .val (.int ((updF (updF (updF (fun _ => 0) (0 : Int) ((0 : Int32) + aa)) (1 : Int) (((updF (fun _ => 0) (0 : Int) ((0 : Int32) + aa)) (0 : Int)) + bb)) (2 : Int) (((updF (updF (fun _ => 0) (0 : Int) ((0 : Int32) + aa)) (1 : Int) (((updF (fun _ => 0) (0 : Int) ((0 : Int32) + aa)) (0 : Int)) + bb)) (1 : Int)) + cc)) (1 : Int))), .unset] [(.int ((updF (updF (updF (fun _ => 0) (0 : Int) ((0 : Int32) + aa)) (1 : Int) (((updF (fun _ => 0) (0 : Int) ((0 : Int32) + aa)) (0 : Int)) + bb)) (2 : Int) (((updF (updF (fun _ => 0) (0 : Int) ((0 : Int32) + aa)) (1 : Int) (((updF (fun _ => 0) (0 : Int) ((0 : Int32) + aa)) (0 : Int)) + bb)) (1 : Int)) + cc)) (2 : Int)))]))
  refine s_istore (pc' := 95) (l' := #[.val (.int p0), .val (.int p1), .val (.int p2), .val (.int p3), .val (.int aa), .val (.int bb), .val (.int cc), .val (.ref b_125), .val (.ref b_126), .val (.int (0 : Int32)), .val (.int ((updF (updF (updF (fun _ => 0) (0 : Int) ((0 : Int32) + aa)) (1 : Int) (((updF (fun _ => 0) (0 : Int) ((0 : Int32) + aa)) (0 : Int)) + bb)) (2 : Int) (((updF (updF (fun _ => 0) (0 : Int) ((0 : Int32) + aa)) (1 : Int) (((updF (fun _ => 0) (0 : Int) ((0 : Int32) + aa)) (0 : Int)) + bb)) (1 : Int)) + cc)) (0 : Int))), .val (.int ((updF (updF (updF (fun _ => 0) (0 : Int) ((0 : Int32) + aa)) (1 : Int) (((updF (fun _ => 0) (0 : Int) ((0 : Int32) + aa)) (0 : Int)) + bb)) (2 : Int) (((updF (updF (fun _ => 0) (0 : Int) ((0 : Int32) + aa)) (1 : Int) (((updF (fun _ => 0) (0 : Int) ((0 : Int32) + aa)) (0 : Int)) + bb)) (1 : Int)) + cc)) (1 : Int))), .val (.int ((updF (updF (updF (fun _ => 0) (0 : Int) ((0 : Int32) + aa)) (1 : Int) (((updF (fun _ => 0) (0 : Int) ((0 : Int32) + aa)) (0 : Int)) + bb)) (2 : Int) (((updF (updF (fun _ => 0) (0 : Int) ((0 : Int32) + aa)) (1 : Int) (((updF (fun _ => 0) (0 : Int) ((0 : Int32) + aa)) (0 : Int)) + bb)) (1 : Int)) + cc)) (2 : Int)))]) X_134.here hx (hb hby at_93) rfl rfl ?_
  refine s_iload (pc' := 97) X_134.here hx (hb hby at_95) rfl rfl ?_
  refine s_ifNo (pc' := 100) X_134.here hx (hb hby at_97) rfl ((if0 _ _).trans (teqI (x := (0 : Int32)) (y := (0 : Int32)) (by decide)).2) ?_
  refine s_iload (pc' := 102) X_134.here hx (hb hby at_100) rfl rfl ?_
  refine s_iload (pc' := 104) X_134.here hx (hb hby at_102) rfl rfl ?_
  by_cases hc104 : (((updF (updF (updF (fun _ => 0) (0 : Int) ((0 : Int32) + aa)) (1 : Int) (((updF (fun _ => 0) (0 : Int) ((0 : Int32) + aa)) (0 : Int)) + bb)) (2 : Int) (((updF (updF (fun _ => 0) (0 : Int) ((0 : Int32) + aa)) (1 : Int) (((updF (fun _ => 0) (0 : Int) ((0 : Int32) + aa)) (0 : Int)) + bb)) (1 : Int)) + cc)) (0 : Int))).toInt = (aa).toInt
  · skip
    refine s_icmpNo (pc' := 107) X_134.here hx (hb hby at_104) rfl (teqI (x := ((updF (updF (updF (fun _ => 0) (0 : Int) ((0 : Int32) + aa)) (1 : Int) (((updF (fun _ => 0) (0 : Int) ((0 : Int32) + aa)) (0 : Int)) + bb)) (2 : Int) (((updF (updF (fun _ => 0) (0 : Int) ((0 : Int32) + aa)) (1 : Int) (((updF (fun _ => 0) (0 : Int) ((0 : Int32) + aa)) (0 : Int)) + bb)) (1 : Int)) + cc)) (0 : Int))) (y := aa) hc104).2 ?_
    refine s_iload (pc' := 109) X_134.here hx (hb hby at_107) rfl rfl ?_
    refine s_iload (pc' := 111) X_134.here hx (hb hby at_109) rfl rfl ?_
    refine s_iload (pc' := 113) X_134.here hx (hb hby at_111) rfl rfl ?_
    refine s_iadd (pc' := 114) X_134.here hx (hb hby at_113) rfl ?_
    by_cases hc114 : (((updF (updF (updF (fun _ => 0) (0 : Int) ((0 : Int32) + aa)) (1 : Int) (((updF (fun _ => 0) (0 : Int) ((0 : Int32) + aa)) (0 : Int)) + bb)) (2 : Int) (((updF (updF (fun _ => 0) (0 : Int) ((0 : Int32) + aa)) (1 : Int) (((updF (fun _ => 0) (0 : Int) ((0 : Int32) + aa)) (0 : Int)) + bb)) (1 : Int)) + cc)) (1 : Int))).toInt = ((aa + bb)).toInt
    · skip
      refine s_icmpNo (pc' := 117) X_134.here hx (hb hby at_114) rfl (teqI (x := ((updF (updF (updF (fun _ => 0) (0 : Int) ((0 : Int32) + aa)) (1 : Int) (((updF (fun _ => 0) (0 : Int) ((0 : Int32) + aa)) (0 : Int)) + bb)) (2 : Int) (((updF (updF (fun _ => 0) (0 : Int) ((0 : Int32) + aa)) (1 : Int) (((updF (fun _ => 0) (0 : Int) ((0 : Int32) + aa)) (0 : Int)) + bb)) (1 : Int)) + cc)) (1 : Int))) (y := (aa + bb)) hc114).2 ?_
      refine s_iload (pc' := 119) X_134.here hx (hb hby at_117) rfl rfl ?_
      refine s_iload (pc' := 121) X_134.here hx (hb hby at_119) rfl rfl ?_
      refine s_iload (pc' := 123) X_134.here hx (hb hby at_121) rfl rfl ?_
      refine s_iadd (pc' := 124) X_134.here hx (hb hby at_123) rfl ?_
      refine s_iload (pc' := 126) X_134.here hx (hb hby at_124) rfl rfl ?_
      refine s_iadd (pc' := 127) X_134.here hx (hb hby at_126) rfl ?_
      by_cases hc127 : (((updF (updF (updF (fun _ => 0) (0 : Int) ((0 : Int32) + aa)) (1 : Int) (((updF (fun _ => 0) (0 : Int) ((0 : Int32) + aa)) (0 : Int)) + bb)) (2 : Int) (((updF (updF (fun _ => 0) (0 : Int) ((0 : Int32) + aa)) (1 : Int) (((updF (fun _ => 0) (0 : Int) ((0 : Int32) + aa)) (0 : Int)) + bb)) (1 : Int)) + cc)) (2 : Int))).toInt = (((aa + bb) + cc)).toInt
      · skip
        refine s_icmpNo (pc' := 130) X_134.here hx (hb hby at_127) rfl (teqI (x := ((updF (updF (updF (fun _ => 0) (0 : Int) ((0 : Int32) + aa)) (1 : Int) (((updF (fun _ => 0) (0 : Int) ((0 : Int32) + aa)) (0 : Int)) + bb)) (2 : Int) (((updF (updF (fun _ => 0) (0 : Int) ((0 : Int32) + aa)) (1 : Int) (((updF (fun _ => 0) (0 : Int) ((0 : Int32) + aa)) (0 : Int)) + bb)) (1 : Int)) + cc)) (2 : Int))) (y := ((aa + bb) + cc)) hc127).2 ?_
        refine s_iconst (pc' := 131) (z := (1 : Int32)) X_134.here hx (hb hby at_130) rfl rfl ?_
        refine s_goto (pc' := 135) X_134.here hx (hb hby at_131) (by decide) (by decide) ?_
        refine winN X_134 hx hlk e_134 (t := .boolean) Bd.returns (by simp) (hb hby at_135) (by decide) (by decide) (z' := 1) rfl ⟨Nf, rfl⟩
      · skip
        exfalso
        exact hc127 (by simp [updF])
    · skip
      exfalso
      exact hc114 (by simp [updF])
  · skip
    exfalso
    exact hc104 (by simp [updF])
set_option maxRecDepth 65536 in
set_option maxHeartbeats 40000000 in
theorem comes_1 {Post : Tables → Env → Array Value → State → Outcome → State → Prop} (hpost : ∀ tb e args s v u, (limb_1_1.after args s (.returned v) u = true ∧ limb_1_2.after args s (.returned v) u = true ∧ True) → FrameEnd s (.returned v) u (Jvm.fieldLocs frame_1_writes args s ++ Jvm.arrayLocs frame_1_arrays args s ++ Jvm.staticLocs frame_1_statics s) 32 768 → Post tb e args s (.returned v) u) :
    ArmFor flags0 classFile x code maxLocals ret World_1 tables_1 room_1 Calls_1 rest_1 Pre_1 Post := by
  intro l hfl _ _ p e ha hc hk s m args below hf hA hF happ hP
  obtain ⟨hcalls, hrest, hpre⟩ := hP
  obtain ⟨-, -, -, hnamed, -, -, -, hat⟩ := (Spec.applies_iff hf).mp happ
  obtain ⟨hg, hn⟩ := and_e (Cond.before_iff.mp (show (Jvm.Cond.and given_1 narrow_1).before args s = true from hpre))
  obtain ⟨g1, g2⟩ := and_e hg
  obtain ⟨g3, g4⟩ := and_e g2
  obtain ⟨g5, g6⟩ := and_e g4
  obtain ⟨g7, g8⟩ := and_e g6
  obtain ⟨w0, w1, w2, w3, rfl⟩ : ∃ w0 w1 w2 w3 : Value, args = #[w0, w1, w2, w3] := by
    have hs : args.size = 4 := by simpa [Cond.value, given_1] using g1
    obtain ⟨L⟩ := args
    match L, hs with
    | [w0, w1, w2, w3], _ => exact ⟨w0, w1, w2, w3, rfl⟩
  have hw := fun d (hd : d ∈ tables_1) => atoms_spec (ws := Jvm.Cond.code x code maxLocals ret :: tables_1) hat d (List.mem_cons_of_mem _ hd)
  have hfit : Fit s := fun {y c} hc i hi => by
    obtain ⟨ha, rfl⟩ := Array.getElem?_eq_some_iff.mp hc
    have q := List.all_eq_true.mp ((Array.all_eq_true_iff_forall_mem.mp hF) _ (Array.getElem_mem ha)) i (List.mem_range.mpr hi)
    simpa [Array.getElem?_eq_getElem hi] using q
  obtain ⟨i0, ei0⟩ := is_v g3
  obtain rfl : w0 = (.int i0) := Option.some.inj ei0
  obtain ⟨i1, ei1⟩ := is_v g5
  obtain rfl : w1 = (.int i1) := Option.some.inj ei1
  obtain ⟨i2, ei2⟩ := is_v g7
  obtain rfl : w2 = (.int i2) := Option.some.inj ei2
  obtain ⟨i3, ei3⟩ := is_v g8
  obtain rfl : w3 = (.int i3) := Option.some.inj ei3
  obtain ⟨n, o, h1, h2, h3, _, L, rfl, ⟨N, rfl⟩, hq⟩ := rm0 l s _ hw tables_1 i0 i1 i2 i3 s.heap s.heap.size (Nat.le_refl _) p e ha hc hk s m _ below hf ((Spec.applies_iff_loose hf).mp happ).1 ⟨rfl, State.Warmed39.refl s, rfl⟩ trivial
  refine ⟨n, _, h1, h2, h3, hpost _ _ _ _ _ _ ⟨Cond.after_iff.mpr rfl, Cond.after_iff.mpr (eq_i res_at (Term.int_eval (1)) rfl), trivial⟩ ⟨hq.1, hq.2.1, (hq.2.2.sift fun y hy => Or.inr (N y hy)).mono (by decide) (by decide)⟩⟩
theorem main_1_1 : Claimed_1_1 := comes_1 fun _ _ _ _ _ _ h hF => ⟨h.1, hF⟩
theorem main_1_2 : Claimed_1_2 := comes_1 fun _ _ _ _ _ _ h hF => ⟨h.2.1, hF⟩
end Jvm.Pilot.@@N@@
namespace Jvm.Pilot.@@N@@
open Jvm Jvm.ClassFile Sem Op Lib Jvm.Free Jvm.Stand Jvm.Pilot.@@N@@.Jvm.D
/-! MADE BY PROGRAM (witnessworld.py) out of the Statement's table words and the real class files: 13 classes; the members and pool entries that the words name. The judged class is class 1, her method 1. -/
namespace start1
open Jvm.ClassFile
def u (s : String) : CpInfo := .utf8 (stringToUtf16 s)
/-- a pool by its gaps: so many unusable entries, then the entry; so many at the end -/
def gap : Nat → List CpInfo → List CpInfo
  | 0, r => r
  | n + 1, r => .unusable :: gap n r
def poolList (es : List (Nat × CpInfo)) (last : Nat) : List CpInfo := es.foldr (fun e r => gap e.1 (e.2 :: r)) (gap last [])
def pool (es : List (Nat × CpInfo)) (last : Nat) : Array CpInfo := ⟨poolList es last⟩
def fileOf (pool : Array CpInfo) (this : Nat) (attrs : Array Attribute := #[]) (ms : Array MethodInfo := #[]) (fl : Nat := 33) (sup : Nat := 0) (ifs : Array Nat := #[]) (fds : Array FieldInfo := #[]) : ClassFile where
  minorVersion := 0
  majorVersion := 65
  constantPool := pool
  accessFlags := fl
  thisClass := this
  superClass := sup
  interfaces := ifs
  fields := fds
  methods := ms
  attributes := attrs
def plain (name : String) (sup : Option ClassId) : Class where
  name := name
  kind := .ordinary
  loader := none
  accessFlags := 33
  super := sup
  interfaces := #[]
  cf := none
  fields := #[]
  methods := #[]
  instanceTypes := #[]
  staticTypes := #[]
  resolved := #[]
  callSites := []
  init := .initialized
  statics := none
  mirror := none

def pool0 : Array CpInfo := pool [(5, u "<init>"), (0, u "()V"), (1, .class_ 10), (1, u "java/lang/Object")] 113

def k0c0 : Code := { maxStack := 0, maxLocals := 1, code := object_method_1_code, exceptionTable := #[], attributes := #[] }
def k0m0 : Method := { name := "<init>", desc := "()V", sig := { parameters := [], returnType := none }, accessFlags := 1, code := some k0c0 }
/-- java/lang/Object -/
def k0 : Class := { plain "java/lang/Object" none with
  accessFlags := 33
  interfaces := #[]
  cf := some (fileOf pool0 8 #[] #[{ accessFlags := 1, nameIndex := 5, descriptorIndex := 6, attributes := #[] }] 33 0 #[] #[])
  fields := #[]
  methods := #[k0m0]
  instanceTypes := #[]
  staticTypes := #[]
  resolved := Array.replicate 124 none
  statics := none }

def pool1 : Array CpInfo := pool [(2, .class_ 4), (0, .nameAndType 5 6), (0, u "java/lang/Object"), (0, u "<init>"), (0, u "()V"), (0, .class_ 8), (0, u "com/example/nearstable/nearstable/files/StringBatch"), (0, .methodref 7 3), (0, .methodref 7 11), (0, .nameAndType 12 13), (0, u "add"), (0, u "([BII)V"), (0, .methodref 7 15), (0, .nameAndType 16 17), (0, u "start"), (0, u "(I)I"), (0, .class_ 19), (0, u "com/example/nearstable/nearstable/files/StringBatchStartPinLaw"), (2, u "law"), (0, u "(IIII)Z")] 5

def k1m0 : Method := { name := "<init>", desc := "()V", sig := { parameters := [], returnType := none }, accessFlags := 1, code := none }
def k1c1 : Code := { maxStack := 4, maxLocals := 13, code := code, exceptionTable := #[], attributes := #[] }
def k1m1 : Method := { name := "law", desc := "(IIII)Z", sig := { parameters := [.int, .int, .int, .int], returnType := some .boolean }, accessFlags := 9, code := some k1c1 }
/-- com/example/nearstable/nearstable/files/StringBatchStartPinLaw -/
def k1 : Class := { plain "com/example/nearstable/nearstable/files/StringBatchStartPinLaw" (some 0) with
  accessFlags := 49
  interfaces := #[]
  cf := some (fileOf pool1 18 #[] #[{ accessFlags := 1, nameIndex := 5, descriptorIndex := 6, attributes := #[] }, { accessFlags := 9, nameIndex := 22, descriptorIndex := 23, attributes := #[] }] 49 2 #[] #[])
  fields := #[]
  methods := #[k1m0, k1m1]
  instanceTypes := #[]
  staticTypes := #[]
  resolved := Array.replicate 29 none
  statics := none }

def pool2 : Array CpInfo := pool [(1, .methodref 2 3), (0, .class_ 4), (0, .nameAndType 5 6), (0, u "java/lang/Object"), (0, u "<init>"), (0, u "()V"), (0, .fieldref 8 9), (0, .class_ 10), (0, .nameAndType 11 12), (0, u "com/example/nearstable/nearstable/files/StringBatch"), (0, u "bytes"), (0, u "[B"), (0, .fieldref 8 14), (0, .nameAndType 15 16), (0, u "ends"), (0, u "[I"), (0, .fieldref 8 18), (0, .nameAndType 19 16), (0, u "lines"), (0, .fieldref 8 21), (0, .nameAndType 22 16), (0, u "ids"), (0, .fieldref 8 24), (0, .nameAndType 25 26), (0, u "count"), (0, u "I"), (0, .methodref 8 28), (0, .nameAndType 29 30), (0, u "start"), (0, u "(I)I"), (0, .class_ 32), (0, u "com/example/nearstable/nearstable/market/Market"), (0, .integer 2147483639), (7, .methodref 31 42), (0, .nameAndType 43 44), (0, u "grownLength"), (0, u "(II)I"), (0, .methodref 46 47), (0, .class_ 48), (0, .nameAndType 49 50), (0, u "java/util/Arrays"), (0, u "copyOf"), (0, u "([BI)[B"), (3, .methodref 55 56), (0, .class_ 57), (0, .nameAndType 58 59), (0, u "java/lang/System"), (0, u "arraycopy"), (0, u "(Ljava/lang/Object;ILjava/lang/Object;II)V"), (10, u "add"), (0, u "([BII)V")] 6

def k2c0 : Code := { maxStack := 2, maxLocals := 1, code := prog_38_method_1_code, exceptionTable := #[], attributes := #[] }
def k2m0 : Method := { name := "<init>", desc := "()V", sig := { parameters := [], returnType := none }, accessFlags := 0, code := some k2c0 }
def k2c1 : Code := { maxStack := 5, maxLocals := 5, code := prog_38_method_5_code, exceptionTable := #[], attributes := #[] }
def k2m1 : Method := { name := "add", desc := "([BII)V", sig := { parameters := [(.array .byte), .int, .int], returnType := none }, accessFlags := 0, code := some k2c1 }
def k2c2 : Code := { maxStack := 3, maxLocals := 2, code := prog_38_method_8_code, exceptionTable := #[], attributes := #[] }
def k2m2 : Method := { name := "start", desc := "(I)I", sig := { parameters := [.int], returnType := some .int }, accessFlags := 0, code := some k2c2 }
/-- com/example/nearstable/nearstable/files/StringBatch -/
def k2 : Class := { plain "com/example/nearstable/nearstable/files/StringBatch" (some 0) with
  accessFlags := 48
  interfaces := #[]
  cf := some (fileOf pool2 8 #[] #[{ accessFlags := 0, nameIndex := 5, descriptorIndex := 6, attributes := #[] }, { accessFlags := 0, nameIndex := 70, descriptorIndex := 71, attributes := #[] }, { accessFlags := 0, nameIndex := 29, descriptorIndex := 30, attributes := #[] }] 48 2 #[] #[{ accessFlags := 2, nameIndex := 11, descriptorIndex := 12, attributes := #[] }, { accessFlags := 2, nameIndex := 15, descriptorIndex := 16, attributes := #[] }, { accessFlags := 2, nameIndex := 19, descriptorIndex := 16, attributes := #[] }, { accessFlags := 2, nameIndex := 22, descriptorIndex := 16, attributes := #[] }, { accessFlags := 2, nameIndex := 25, descriptorIndex := 26, attributes := #[] }])
  fields := #[{ name := "bytes", type := (.array .byte), accessFlags := 2, slot := 0, constantValue := 0 }, { name := "ends", type := (.array .int), accessFlags := 2, slot := 1, constantValue := 0 }, { name := "lines", type := (.array .int), accessFlags := 2, slot := 2, constantValue := 0 }, { name := "ids", type := (.array .int), accessFlags := 2, slot := 3, constantValue := 0 }, { name := "count", type := .int, accessFlags := 2, slot := 4, constantValue := 0 }]
  methods := #[k2m0, k2m1, k2m2]
  instanceTypes := #[(.array .byte), (.array .int), (.array .int), (.array .int), .int]
  staticTypes := #[]
  resolved := Array.replicate 78 none
  statics := none }

def pool3 : Array CpInfo := pool [(2, .class_ 4), (1, u "java/lang/Object"), (0, u "<init>"), (0, u "()V"), (1, .class_ 10), (1, u "java/lang/System"), (0, u "allowSecurityManager"), (0, u "I"), (16, u "cons"), (0, u "Ljava/io/Console;"), (77, .class_ 110), (1, u "java/lang/System$CallersHolder"), (43, u "initialErrStream"), (0, u "Ljava/io/PrintStream;"), (19, u "security"), (0, u "Ljava/lang/SecurityManager;"), (31, .class_ 209), (0, u "java/lang/System$1"), (7, u "props"), (0, u "Ljava/util/Properties;"), (2, u "lineSeparator"), (0, u "Ljava/lang/String;"), (96, .class_ 321), (1, u "java/lang/System$LoggerFinder"), (5, .class_ 328), (0, u "java/lang/System$Logger"), (67, u "err"), (2, u "out"), (91, u "notSupportedJnuEncoding"), (15, u "in"), (17, u "initialIn"), (0, u "Ljava/io/InputStream;"), (35, u "bootLayer"), (0, u "Ljava/lang/ModuleLayer;"), (99, .class_ 664), (0, u "java/lang/System$2"), (9, u "NEVER"), (2, u "MAYBE"), (49, u "arraycopy"), (0, u "(Ljava/lang/Object;ILjava/lang/Object;II)V"), (72, .class_ 802), (0, u "java/lang/System$Logger$Level")] 31

def k3m0 : Method := { name := "<init>", desc := "()V", sig := { parameters := [], returnType := none }, accessFlags := 2, code := none }
def k3m1 : Method := { name := "arraycopy", desc := "(Ljava/lang/Object;ILjava/lang/Object;II)V", sig := { parameters := [(.object "java/lang/Object"), .int, (.object "java/lang/Object"), .int, .int], returnType := none }, accessFlags := 265, code := none }
/-- java/lang/System -/
def k3 : Class := { plain "java/lang/System" (some 0) with
  accessFlags := 49
  interfaces := #[]
  cf := some (fileOf pool3 8 #[.nestMembers #[319, 327, 801, 108, 663, 208]] #[{ accessFlags := 2, nameIndex := 5, descriptorIndex := 6, attributes := #[] }, { accessFlags := 265, nameIndex := 727, descriptorIndex := 728, attributes := #[] }] 49 2 #[] #[{ accessFlags := 25, nameIndex := 507, descriptorIndex := 526, attributes := #[] }, { accessFlags := 25, nameIndex := 399, descriptorIndex := 155, attributes := #[] }, { accessFlags := 25, nameIndex := 396, descriptorIndex := 155, attributes := #[] }, { accessFlags := 10, nameIndex := 525, descriptorIndex := 526, attributes := #[] }, { accessFlags := 26, nameIndex := 674, descriptorIndex := 12, attributes := #[] }, { accessFlags := 26, nameIndex := 677, descriptorIndex := 12, attributes := #[] }, { accessFlags := 10, nameIndex := 11, descriptorIndex := 12, attributes := #[] }, { accessFlags := 74, nameIndex := 175, descriptorIndex := 176, attributes := #[] }, { accessFlags := 10, nameIndex := 491, descriptorIndex := 222, attributes := #[] }, { accessFlags := 74, nameIndex := 29, descriptorIndex := 30, attributes := #[] }, { accessFlags := 74, nameIndex := 154, descriptorIndex := 155, attributes := #[] }, { accessFlags := 10, nameIndex := 217, descriptorIndex := 218, attributes := #[] }, { accessFlags := 10, nameIndex := 221, descriptorIndex := 222, attributes := #[] }, { accessFlags := 8, nameIndex := 562, descriptorIndex := 563, attributes := #[] }])
  fields := #[{ name := "in", type := (.object "java/io/InputStream"), accessFlags := 25, slot := 0, constantValue := 0 }, { name := "out", type := (.object "java/io/PrintStream"), accessFlags := 25, slot := 1, constantValue := 0 }, { name := "err", type := (.object "java/io/PrintStream"), accessFlags := 25, slot := 2, constantValue := 0 }, { name := "initialIn", type := (.object "java/io/InputStream"), accessFlags := 10, slot := 3, constantValue := 0 }, { name := "NEVER", type := .int, accessFlags := 26, slot := 4, constantValue := 0 }, { name := "MAYBE", type := .int, accessFlags := 26, slot := 5, constantValue := 0 }, { name := "allowSecurityManager", type := .int, accessFlags := 10, slot := 6, constantValue := 0 }, { name := "security", type := (.object "java/lang/SecurityManager"), accessFlags := 74, slot := 7, constantValue := 0 }, { name := "notSupportedJnuEncoding", type := (.object "java/lang/String"), accessFlags := 10, slot := 8, constantValue := 0 }, { name := "cons", type := (.object "java/io/Console"), accessFlags := 74, slot := 9, constantValue := 0 }, { name := "initialErrStream", type := (.object "java/io/PrintStream"), accessFlags := 74, slot := 10, constantValue := 0 }, { name := "props", type := (.object "java/util/Properties"), accessFlags := 10, slot := 11, constantValue := 0 }, { name := "lineSeparator", type := (.object "java/lang/String"), accessFlags := 10, slot := 12, constantValue := 0 }, { name := "bootLayer", type := (.object "java/lang/ModuleLayer"), accessFlags := 8, slot := 13, constantValue := 0 }]
  methods := #[k3m0, k3m1]
  instanceTypes := #[]
  staticTypes := #[(.object "java/io/InputStream"), (.object "java/io/PrintStream"), (.object "java/io/PrintStream"), (.object "java/io/InputStream"), .int, .int, .int, (.object "java/lang/SecurityManager"), (.object "java/lang/String"), (.object "java/io/Console"), (.object "java/io/PrintStream"), (.object "java/util/Properties"), (.object "java/lang/String"), (.object "java/lang/ModuleLayer")]
  resolved := Array.replicate 834 none
  statics := none }

def pool4 : Array CpInfo := pool [(3, .long 2), (1, .methodref 6 7), (0, .class_ 8), (0, .nameAndType 9 10), (0, u "java/lang/Math"), (0, u "max"), (0, u "(JJ)J"), (0, .class_ 12), (0, u "com/example/nearstable/nearstable/market/Market"), (0, .long 2147483639), (1, .methodref 6 16), (0, .nameAndType 17 10), (0, u "min"), (1, .class_ 21), (1, u "java/lang/Object"), (4, u "men"), (0, u "Lcom/example/nearstable/nearstable/market/Side;"), (2, u "women"), (2, u "oneSidedDropped"), (0, u "J"), (9, .class_ 45), (0, u "com/example/nearstable/nearstable/market/Market$Builder"), (41, u "(II)I"), (40, u "MOST_ENTRIES"), (0, u "I"), (2, u "grownLength")] 47

def k4c0 : Code := { maxStack := 4, maxLocals := 2, code := prog_44_method_1_code, exceptionTable := #[], attributes := #[] }
def k4m0 : Method := { name := "grownLength", desc := "(II)I", sig := { parameters := [.int, .int], returnType := some .int }, accessFlags := 9, code := some k4c0 }
/-- com/example/nearstable/nearstable/market/Market -/
def k4 : Class := { plain "com/example/nearstable/nearstable/market/Market" (some 0) with
  accessFlags := 49
  interfaces := #[]
  cf := some (fileOf pool4 11 #[.nestMembers #[44]] #[{ accessFlags := 9, nameIndex := 132, descriptorIndex := 87, attributes := #[] }] 49 19 #[] #[{ accessFlags := 25, nameIndex := 128, descriptorIndex := 129, attributes := #[] }, { accessFlags := 18, nameIndex := 26, descriptorIndex := 27, attributes := #[] }, { accessFlags := 18, nameIndex := 30, descriptorIndex := 27, attributes := #[] }, { accessFlags := 18, nameIndex := 33, descriptorIndex := 34, attributes := #[] }])
  fields := #[{ name := "MOST_ENTRIES", type := .int, accessFlags := 25, slot := 0, constantValue := 0 }, { name := "men", type := (.object "com/example/nearstable/nearstable/market/Side"), accessFlags := 18, slot := 0, constantValue := 0 }, { name := "women", type := (.object "com/example/nearstable/nearstable/market/Side"), accessFlags := 18, slot := 1, constantValue := 0 }, { name := "oneSidedDropped", type := .long, accessFlags := 18, slot := 2, constantValue := 0 }]
  methods := #[k4m0]
  instanceTypes := #[(.object "com/example/nearstable/nearstable/market/Side"), (.object "com/example/nearstable/nearstable/market/Side"), .long]
  staticTypes := #[.int]
  resolved := Array.replicate 180 none
  statics := none }

def pool5 : Array CpInfo := pool [(1, .class_ 2), (0, u "java/lang/Math"), (1, .class_ 6), (1, u "java/lang/Object"), (0, u "<init>"), (0, u "()V"), (89, .class_ 100), (1, u "java/lang/Math$RandomNumberGeneratorHolder"), (20, u "(JJ)J"), (50, u "negativeZeroFloatBits"), (0, u "J"), (2, u "negativeZeroDoubleBits"), (21, u "max"), (2, u "min"), (43, u "$assertionsDisabled"), (0, u "Z"), (88, u "(II)I"), (2, u "twoToTheDoubleScaleDown"), (0, u "D"), (4, u "twoToTheDoubleScaleUp"), (9, u "E"), (3, u "PI"), (2, u "TAU"), (2, u "DEGREES_TO_RADIANS"), (0, u "RADIANS_TO_DEGREES")] 94

def k5m0 : Method := { name := "<init>", desc := "()V", sig := { parameters := [], returnType := none }, accessFlags := 2, code := none }
def k5c1 : Code := { maxStack := 4, maxLocals := 4, code := jdk_29_method_66_code, exceptionTable := #[], attributes := #[] }
def k5m1 : Method := { name := "max", desc := "(JJ)J", sig := { parameters := [.long, .long], returnType := some .long }, accessFlags := 9, code := some k5c1 }
def k5c2 : Code := { maxStack := 2, maxLocals := 2, code := jdk_29_method_69_code, exceptionTable := #[], attributes := #[] }
def k5m2 : Method := { name := "min", desc := "(II)I", sig := { parameters := [.int, .int], returnType := some .int }, accessFlags := 9, code := some k5c2 }
def k5c3 : Code := { maxStack := 4, maxLocals := 4, code := jdk_29_method_70_code, exceptionTable := #[], attributes := #[] }
def k5m3 : Method := { name := "min", desc := "(JJ)J", sig := { parameters := [.long, .long], returnType := some .long }, accessFlags := 9, code := some k5c3 }
/-- java/lang/Math -/
def k5 : Class := { plain "java/lang/Math" (some 0) with
  accessFlags := 49
  interfaces := #[]
  cf := some (fileOf pool5 1 #[.nestMembers #[98]] #[{ accessFlags := 2, nameIndex := 7, descriptorIndex := 8, attributes := #[] }, { accessFlags := 9, nameIndex := 198, descriptorIndex := 121, attributes := #[] }, { accessFlags := 9, nameIndex := 201, descriptorIndex := 335, attributes := #[] }, { accessFlags := 9, nameIndex := 201, descriptorIndex := 121, attributes := #[] }] 49 4 #[] #[{ accessFlags := 25, nameIndex := 354, descriptorIndex := 339, attributes := #[] }, { accessFlags := 25, nameIndex := 358, descriptorIndex := 339, attributes := #[] }, { accessFlags := 25, nameIndex := 361, descriptorIndex := 339, attributes := #[] }, { accessFlags := 26, nameIndex := 364, descriptorIndex := 339, attributes := #[] }, { accessFlags := 26, nameIndex := 365, descriptorIndex := 339, attributes := #[] }, { accessFlags := 26, nameIndex := 172, descriptorIndex := 173, attributes := #[] }, { accessFlags := 26, nameIndex := 176, descriptorIndex := 173, attributes := #[] }, { accessFlags := 8, nameIndex := 344, descriptorIndex := 339, attributes := #[] }, { accessFlags := 8, nameIndex := 338, descriptorIndex := 339, attributes := #[] }, { accessFlags := 4120, nameIndex := 245, descriptorIndex := 246, attributes := #[] }])
  fields := #[{ name := "E", type := .double, accessFlags := 25, slot := 0, constantValue := 0 }, { name := "PI", type := .double, accessFlags := 25, slot := 1, constantValue := 0 }, { name := "TAU", type := .double, accessFlags := 25, slot := 2, constantValue := 0 }, { name := "DEGREES_TO_RADIANS", type := .double, accessFlags := 26, slot := 3, constantValue := 0 }, { name := "RADIANS_TO_DEGREES", type := .double, accessFlags := 26, slot := 4, constantValue := 0 }, { name := "negativeZeroFloatBits", type := .long, accessFlags := 26, slot := 5, constantValue := 0 }, { name := "negativeZeroDoubleBits", type := .long, accessFlags := 26, slot := 6, constantValue := 0 }, { name := "twoToTheDoubleScaleUp", type := .double, accessFlags := 8, slot := 7, constantValue := 0 }, { name := "twoToTheDoubleScaleDown", type := .double, accessFlags := 8, slot := 8, constantValue := 0 }, { name := "$assertionsDisabled", type := .boolean, accessFlags := 4120, slot := 9, constantValue := 0 }]
  methods := #[k5m0, k5m1, k5m2, k5m3]
  instanceTypes := #[]
  staticTypes := #[.double, .double, .double, .double, .double, .long, .long, .double, .double, .boolean]
  resolved := Array.replicate 460 none
  statics := none }

def pool6 : Array CpInfo := pool [(2, .class_ 4), (1, u "java/lang/Object"), (0, u "<init>"), (0, u "()V"), (7, .class_ 16), (1, u "java/util/Arrays"), (57, .class_ 76), (1, u "java/util/Arrays$NaturalOrder"), (36, .class_ 115), (1, u "java/util/Arrays$LegacyMergeSort"), (1, u "Z"), (32, .methodref 151 152), (0, .class_ 153), (0, .nameAndType 154 155), (0, u "java/lang/System"), (0, u "arraycopy"), (0, u "(Ljava/lang/Object;ILjava/lang/Object;II)V"), (146, u "copyOf"), (1, .methodref 305 306), (0, .class_ 307), (0, .nameAndType 308 309), (0, u "java/lang/Math"), (0, u "min"), (0, u "(II)I"), (65, .class_ 376), (0, u "java/util/Arrays$ArrayList"), (68, u "$assertionsDisabled"), (269, u "MIN_ARRAY_SORT_GRAN"), (0, u "I"), (2, u "INSERTIONSORT_THRESHOLD"), (149, u "([BI)[B"), (105, .class_ 976), (0, u "java/util/Arrays$ArrayItr")] 52

def k6m0 : Method := { name := "<init>", desc := "()V", sig := { parameters := [], returnType := none }, accessFlags := 2, code := none }
def k6c1 : Code := { maxStack := 6, maxLocals := 3, code := jdk_65_method_121_code, exceptionTable := #[], attributes := #[] }
def k6m1 : Method := { name := "copyOf", desc := "([BI)[B", sig := { parameters := [(.array .byte), .int], returnType := some (.array .byte) }, accessFlags := 9, code := some k6c1 }
/-- java/util/Arrays -/
def k6 : Class := { plain "java/util/Arrays" (some 0) with
  accessFlags := 49
  interfaces := #[]
  cf := some (fileOf pool6 14 #[.nestMembers #[975, 375, 113, 74]] #[{ accessFlags := 2, nameIndex := 5, descriptorIndex := 6, attributes := #[] }, { accessFlags := 9, nameIndex := 302, descriptorIndex := 869, attributes := #[] }] 49 2 #[] #[{ accessFlags := 26, nameIndex := 715, descriptorIndex := 716, attributes := #[] }, { accessFlags := 26, nameIndex := 719, descriptorIndex := 716, attributes := #[] }, { accessFlags := 4120, nameIndex := 445, descriptorIndex := 117, attributes := #[] }])
  fields := #[{ name := "MIN_ARRAY_SORT_GRAN", type := .int, accessFlags := 26, slot := 0, constantValue := 0 }, { name := "INSERTIONSORT_THRESHOLD", type := .int, accessFlags := 26, slot := 1, constantValue := 0 }, { name := "$assertionsDisabled", type := .boolean, accessFlags := 4120, slot := 2, constantValue := 0 }]
  methods := #[k6m0, k6m1]
  instanceTypes := #[]
  staticTypes := #[.int, .int, .boolean]
  resolved := Array.replicate 1029 none
  statics := none }

def pool7 : Array CpInfo := pool [(1, u "java/lang/Cloneable"), (0, .class_ 1), (0, u "java/lang/Object"), (0, .class_ 3)] 3

/-- java/lang/Cloneable -/
def k7 : Class := { plain "java/lang/Cloneable" (some 0) with
  accessFlags := 1537
  interfaces := #[]
  cf := some (fileOf pool7 2 #[] #[] 1537 4 #[] #[])
  fields := #[]
  methods := #[]
  instanceTypes := #[]
  staticTypes := #[]
  resolved := Array.replicate 8 none
  statics := none }

def pool8 : Array CpInfo := pool [(1, u "java/io/Serializable"), (0, .class_ 1), (0, u "java/lang/Object"), (0, .class_ 3)] 3

/-- java/io/Serializable -/
def k8 : Class := { plain "java/io/Serializable" (some 0) with
  accessFlags := 1537
  interfaces := #[]
  cf := some (fileOf pool8 2 #[] #[] 1537 4 #[] #[])
  fields := #[]
  methods := #[]
  instanceTypes := #[]
  staticTypes := #[]
  resolved := Array.replicate 8 none
  statics := none }

/-- the primitive byte -/
def k9 : Class := { plain "byte" none with kind := .primitive 'B', accessFlags := 0x411 }
/-- [B -/
def k10 : Class := { plain "[B" (some 0) with kind := .array 9 .byte, interfaces := #[7, 8], accessFlags := 1041 }

/-- the primitive int -/
def k11 : Class := { plain "int" none with kind := .primitive 'I', accessFlags := 0x411 }
/-- [I -/
def k12 : Class := { plain "[I" (some 0) with kind := .array 11 .int, interfaces := #[7, 8], accessFlags := 1041 }

def heap : Heap := #[]
def classes : Array Class := #[k0, k1, k2, k3, k4, k5, k6, k7, k8, k9, k10, k11, k12]
def interned : List (Array UInt16 × Addr) := []
def slotsUsed : Nat := 0
def theMethod : MethodId := ⟨1, 1⟩
def args0 : Array Value := #[.int 5, .int 5, .int 5, .int 5]
def aboutOver (below : List Frame) : State where
  vm := { classes := classes, interned := interned.toArray }
  heap := heap
  slotsUsed := slotsUsed
  threads := #[{ frames := .invoking theMethod args0 :: below }]
def below0 : List Frame := [.native { method := ⟨0, 0⟩, args := #[] }]
def about1 : State := aboutOver below0
def p0 : Program := .bare "" "" ""
def e0 : Env := launch0.env 0 0 0
theorem w_frames : about1.frames = Frame.invoking theMethod args0 :: below0 := rfl
set_option maxRecDepth 65536 in
theorem w_args : argsFit about1.vm theMethod args0 = true := by decide +kernel
set_option maxRecDepth 65536 in
theorem w_heap : heapFits about1 = true := by decide +kernel
set_option maxRecDepth 65536 in
theorem w_runnable : about1.curStatus? = some .runnable := by decide +kernel
set_option maxRecDepth 65536 in
theorem w_alone : about1.alone = true := by decide +kernel
set_option maxRecDepth 65536 in
theorem w_named : about1.methodNamed? x = some theMethod := by decide +kernel
set_option maxRecDepth 65536 in
theorem w_hears : about1.hears theMethod below0 = true := by decide +kernel
set_option maxRecDepth 65536 in
theorem w_ripe : about1.ripe theMethod args0 below0 = true := by decide +kernel
theorem w_running : about1.status = .running := rfl
set_option maxRecDepth 65536 in
theorem w_room : about1.hasRoom e0.platform room_1 = true :=
  launch0.hasRoom_least _ room_1 (by decide +kernel) (by decide +kernel) (by decide +kernel) (by decide +kernel) (by decide +kernel) (by decide +kernel)
theorem allAtoms_all (ts : List Jvm.Cond) (a : Array Jvm.Value) (st : Jvm.State) : (allAtoms ts).before a st = ts.all (fun c => c.before a st) := by
  induction ts with
  | nil => rfl
  | cons c t ih =>
    show (Jvm.Cond.and c (allAtoms t)).before a st = _
    rw [Jvm.Cond.before_and, ih, List.all_cons]
def words1 : List Jvm.Cond := Jvm.Cond.code x code maxLocals ret :: tables_1
/-- a 'code' word, met by the world's own term for the bytes: nothing is compared byte by byte -/
theorem code_word {y : MethodName} {bytes : ByteArray} {mx : Nat} {rt : Option FieldType} {a : Array Value} {s : State} {m : MethodId} {meth : Method} {c : Code} (h1 : s.methodNamed? y = some m) (h2 : s.vm.method? m = some meth) (h3 : meth.code = some c) (h4 : c.code = bytes)
    (h5 : (c.maxLocals == mx && c.exceptionTable.isEmpty && decide (c.maxStack ≤ mostOperands) && decide (meth.sig.returnType = rt) && !meth.locks && decide (parseMethodDescriptor y.desc = some meth.sig)) = true) : (Jvm.Cond.code y bytes mx rt).before a s = true := by
  simp only [Bool.and_eq_true, beq_iff_eq, Bool.not_eq_true', decide_eq_true_eq] at h5
  obtain ⟨⟨⟨⟨⟨g1, g2⟩, g3⟩, g4⟩, g5⟩, g6⟩ := h5
  simp [Cond.before, Cond.holds, Cond.value, h1, h2, h3, h4, g1, g2, g3, g4, g5, g6]
def isCode : Jvm.Cond → Bool
  | .code _ _ _ _ => true
  | _ => false
theorem all_split {L : List Jvm.Cond} {P : Jvm.Cond → Bool} (h1 : L.all (fun c => isCode c || P c) = true) (h2 : ∀ c ∈ L.filter isCode, P c = true) : L.all P = true := by
  refine List.all_eq_true.mpr fun c hc => ?_
  have h := List.all_eq_true.mp h1 c hc
  rcases Bool.eq_false_or_eq_true (isCode c) with hi | hi
  · exact h2 c (List.mem_filter.mpr ⟨hc, hi⟩)
  · simpa [hi] using h
set_option maxRecDepth 65536 in
theorem w_c0 : (Jvm.Cond.code x code maxLocals ret).before args0 about1 = true := code_word (m := ⟨1, 1⟩) (meth := k1m1) (c := k1c1) (by decide +kernel) rfl rfl rfl (by decide +kernel)
set_option maxRecDepth 65536 in
theorem w_c1 : (Jvm.Cond.code ({ cls := "com/example/nearstable/nearstable/files/StringBatch", name := "<init>", desc := "()V" } : Jvm.MethodName) prog_38_method_1_code (1 : Nat) (Option.none : Option Jvm.ClassFile.FieldType)).before args0 about1 = true := code_word (m := ⟨2, 0⟩) (meth := k2m0) (c := k2c0) (by decide +kernel) rfl rfl rfl (by decide +kernel)
set_option maxRecDepth 65536 in
theorem w_c2 : (Jvm.Cond.code ({ cls := "java/lang/Object", name := "<init>", desc := "()V" } : Jvm.MethodName) object_method_1_code (1 : Nat) (Option.none : Option Jvm.ClassFile.FieldType)).before args0 about1 = true := code_word (m := ⟨0, 0⟩) (meth := k0m0) (c := k0c0) (by decide +kernel) rfl rfl rfl (by decide +kernel)
set_option maxRecDepth 65536 in
theorem w_c3 : (Jvm.Cond.code ({ cls := "com/example/nearstable/nearstable/files/StringBatch", name := "add", desc := "([BII)V" } : Jvm.MethodName) prog_38_method_5_code (5 : Nat) (Option.none : Option Jvm.ClassFile.FieldType)).before args0 about1 = true := code_word (m := ⟨2, 1⟩) (meth := k2m1) (c := k2c1) (by decide +kernel) rfl rfl rfl (by decide +kernel)
set_option maxRecDepth 65536 in
theorem w_c4 : (Jvm.Cond.code ({ cls := "com/example/nearstable/nearstable/files/StringBatch", name := "start", desc := "(I)I" } : Jvm.MethodName) prog_38_method_8_code (2 : Nat) (Option.some Jvm.ClassFile.FieldType.int)).before args0 about1 = true := code_word (m := ⟨2, 2⟩) (meth := k2m2) (c := k2c2) (by decide +kernel) rfl rfl rfl (by decide +kernel)
set_option maxRecDepth 65536 in
theorem w_c5 : (Jvm.Cond.code ({ cls := "com/example/nearstable/nearstable/market/Market", name := "grownLength", desc := "(II)I" } : Jvm.MethodName) prog_44_method_1_code (2 : Nat) (Option.some Jvm.ClassFile.FieldType.int)).before args0 about1 = true := code_word (m := ⟨4, 0⟩) (meth := k4m0) (c := k4c0) (by decide +kernel) rfl rfl rfl (by decide +kernel)
set_option maxRecDepth 65536 in
theorem w_c6 : (Jvm.Cond.code ({ cls := "java/lang/Math", name := "max", desc := "(JJ)J" } : Jvm.MethodName) jdk_29_method_66_code (4 : Nat) (Option.some Jvm.ClassFile.FieldType.long)).before args0 about1 = true := code_word (m := ⟨5, 1⟩) (meth := k5m1) (c := k5c1) (by decide +kernel) rfl rfl rfl (by decide +kernel)
set_option maxRecDepth 65536 in
theorem w_c7 : (Jvm.Cond.code ({ cls := "java/lang/Math", name := "min", desc := "(JJ)J" } : Jvm.MethodName) jdk_29_method_70_code (4 : Nat) (Option.some Jvm.ClassFile.FieldType.long)).before args0 about1 = true := code_word (m := ⟨5, 3⟩) (meth := k5m3) (c := k5c3) (by decide +kernel) rfl rfl rfl (by decide +kernel)
set_option maxRecDepth 65536 in
theorem w_c8 : (Jvm.Cond.code ({ cls := "java/util/Arrays", name := "copyOf", desc := "([BI)[B" } : Jvm.MethodName) jdk_65_method_121_code (3 : Nat) (Option.some (Jvm.ClassFile.FieldType.array Jvm.ClassFile.FieldType.byte))).before args0 about1 = true := code_word (m := ⟨6, 1⟩) (meth := k6m1) (c := k6c1) (by decide +kernel) rfl rfl rfl (by decide +kernel)
set_option maxRecDepth 65536 in
theorem w_c9 : (Jvm.Cond.code ({ cls := "java/lang/Math", name := "min", desc := "(II)I" } : Jvm.MethodName) jdk_29_method_69_code (2 : Nat) (Option.some Jvm.ClassFile.FieldType.int)).before args0 about1 = true := code_word (m := ⟨5, 2⟩) (meth := k5m2) (c := k5c2) (by decide +kernel) rfl rfl rfl (by decide +kernel)
def codes1 : List Jvm.Cond := [Jvm.Cond.code x code maxLocals ret, Jvm.Cond.code ({ cls := "com/example/nearstable/nearstable/files/StringBatch", name := "<init>", desc := "()V" } : Jvm.MethodName) prog_38_method_1_code (1 : Nat) (Option.none : Option Jvm.ClassFile.FieldType), Jvm.Cond.code ({ cls := "java/lang/Object", name := "<init>", desc := "()V" } : Jvm.MethodName) object_method_1_code (1 : Nat) (Option.none : Option Jvm.ClassFile.FieldType), Jvm.Cond.code ({ cls := "com/example/nearstable/nearstable/files/StringBatch", name := "add", desc := "([BII)V" } : Jvm.MethodName) prog_38_method_5_code (5 : Nat) (Option.none : Option Jvm.ClassFile.FieldType), Jvm.Cond.code ({ cls := "com/example/nearstable/nearstable/files/StringBatch", name := "start", desc := "(I)I" } : Jvm.MethodName) prog_38_method_8_code (2 : Nat) (Option.some Jvm.ClassFile.FieldType.int), Jvm.Cond.code ({ cls := "com/example/nearstable/nearstable/market/Market", name := "grownLength", desc := "(II)I" } : Jvm.MethodName) prog_44_method_1_code (2 : Nat) (Option.some Jvm.ClassFile.FieldType.int), Jvm.Cond.code ({ cls := "java/lang/Math", name := "max", desc := "(JJ)J" } : Jvm.MethodName) jdk_29_method_66_code (4 : Nat) (Option.some Jvm.ClassFile.FieldType.long), Jvm.Cond.code ({ cls := "java/lang/Math", name := "min", desc := "(JJ)J" } : Jvm.MethodName) jdk_29_method_70_code (4 : Nat) (Option.some Jvm.ClassFile.FieldType.long), Jvm.Cond.code ({ cls := "java/util/Arrays", name := "copyOf", desc := "([BI)[B" } : Jvm.MethodName) jdk_65_method_121_code (3 : Nat) (Option.some (Jvm.ClassFile.FieldType.array Jvm.ClassFile.FieldType.byte)), Jvm.Cond.code ({ cls := "java/lang/Math", name := "min", desc := "(II)I" } : Jvm.MethodName) jdk_29_method_69_code (2 : Nat) (Option.some Jvm.ClassFile.FieldType.int)]
set_option maxRecDepth 65536 in
theorem codes_eq : words1.filter isCode = codes1 := rfl
theorem w_codes : ∀ c ∈ words1.filter isCode, c.before args0 about1 = true := by
  rw [codes_eq]
  intro c hc
  simp only [codes1, List.mem_cons, List.not_mem_nil, or_false] at hc
  rcases hc with rfl | rfl | rfl | rfl | rfl | rfl | rfl | rfl | rfl | rfl
  · exact w_c0
  · exact w_c1
  · exact w_c2
  · exact w_c3
  · exact w_c4
  · exact w_c5
  · exact w_c6
  · exact w_c7
  · exact w_c8
  · exact w_c9
set_option maxRecDepth 65536 in
theorem w_t1 : (words1.take 24).all (fun c => isCode c || c.before args0 about1) = true := by decide +kernel
set_option maxRecDepth 65536 in
theorem w_t2 : ((words1.drop 24).take 24).all (fun c => isCode c || c.before args0 about1) = true := by decide +kernel
set_option maxRecDepth 65536 in
theorem w_t3 : ((words1.drop 24).drop 24).all (fun c => isCode c || c.before args0 about1) = true := by decide +kernel
theorem w_tables : (allAtoms (Jvm.Cond.code x code maxLocals ret :: tables_1)).before args0 about1 = true := by
  rw [allAtoms_all]
  show words1.all (fun c => c.before args0 about1) = true
  refine all_split ?_ w_codes
  rw [← List.take_append_drop 24 words1, List.all_append, w_t1, ← List.take_append_drop 24 (words1.drop 24), List.all_append, w_t2, w_t3]
  rfl
set_option maxRecDepth 65536 in
theorem w_case : (Jvm.Cond.and given_1 narrow_1).before args0 about1 = true := by decide +kernel
theorem w_applies : (headSpec (Jvm.Cond.code x code maxLocals ret :: tables_1) room_1).applies x e0.platform about1 = true :=
  (Spec.applies_iff w_frames).mpr ⟨w_running, w_runnable, w_alone, w_named, w_hears, w_ripe, w_room, w_tables⟩
theorem atStart : AtStart classFile x code maxLocals ret World_1 tables_1 room_1 Calls_1 rest_1 Pre_1 launch0 p0 e0 about1 theMethod args0 below0 :=
  ⟨lists_1, trivial, launch0.admits_env _ _ _, launch0.least_env, fairChoices_fair.cas, fairChoices_fair.clock, w_frames, w_args, w_heap, w_applies, trivial, trivial, w_case⟩
end start1
theorem witness_1 : WitnessClaimed_1 := ⟨start1.p0, start1.e0, start1.about1, start1.theMethod, start1.args0, start1.below0, start1.atStart⟩
end Jvm.Pilot.@@N@@
