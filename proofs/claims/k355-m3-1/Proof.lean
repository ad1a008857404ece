import JvmDerived
import JvmDerived.Pilot.@@N@@Statement
import JvmDerived.Pilot.@@N@@Code
set_option linter.unusedVariables false
set_option linter.unusedSimpArgs false
namespace Jvm.OwnWalk
open Sem ClassFile Op Lib Jvm.Stand Jvm.Free Jvm.LawKit Jvm.RoadKit
/-- from t the run comes to an end of which P holds -/
def Win (tb : Tables) (e : Env) (below : List Frame) (P : State → Outcome → Prop) (t : State) : Prop :=
  ∃ s₂ o, Steps tb e below t s₂ ∧ s₂.status = .running ∧ Ended s₂ below o ∧ P s₂ o
theorem Win.go {tb : Tables} {e : Env} {below : List Frame} {P : State → Outcome → Prop} {t t' : State} (st : ∀ z, Steps tb e below t' z → Steps tb e below t z) (w : Win tb e below P t') : Win tb e below P t := by
  obtain ⟨s2, o, h, r⟩ := w; exact ⟨s2, o, st _ h, r⟩
theorem Win.come {tb : Tables} {e : Env} {below : List Frame} {P : State → Outcome → Prop} {t t' : State} (st : Steps tb e below t t') (w : Win tb e below P t') : Win tb e below P t := by
  obtain ⟨s2, o, h, r⟩ := w; exact ⟨s2, o, st.trans h, r⟩
/-- the body has returned v with the heap h, L written -/
def PostQ (s : State) (Q : Option Value → Heap → List Loc → Prop) (C S : Nat) (u : State) (o : Outcome) : Prop := ∃ v L, o = .returned v ∧ Q v u.heap L ∧ FrameEnd s o u L C S
section Ret
variable {p : Program} {l : Launch} {e : Env} {R : Room} {s : State} {m : MethodId} {args : Array Value} {below : List Frame} {meth : Method} {c : Code} {T : State} {locs : List Loc} {cells slots : Nat} {h : Heap} {Q : Option Value → Heap → List Loc → Prop} {C S : Nat}
theorem retI' (X : Stand p l e R s m args below meth c T locs cells slots) (hx : p.tables.exec = Jvm.exec) {pc : Nat} {Ls : Array Slot} {z : Int32} {rest : List Value} (hret : meth.sig.returnType = some .int) (hd : decode c.code pc = .ok (.ireturn, 1)) {fs : List Frame}
    (hl : ∀ (f : JFrame) (acts : List Action), f.method = m → f.locked = none → f.entered = [] → (doReturn e (T.setTop f) acts (some (.int z))).1 = T.setFrames fs) : Steps p.tables e below (T.setTop (mkF m pc Ls (.int z :: rest))) (T.setFrames fs) := by
  have hm' : T.vm.method? m = some meth := X.method'
  have hn : narrow .int (.int z) = .int z := rfl
  show Steps p.tables e below (T.setTop { method := m, pc := pc, locals := Ls, stack := _ :: rest, locked := none }) _
  jvm_step X.here [X.here.top, hx, hd, hm', hret, hn]
  first | (intro acts; rw [hl _ acts rfl rfl rfl]) | rw [hl _ _ rfl rfl rfl]
  exact Steps.refl _
theorem retA' (X : Stand p l e R s m args below meth c T locs cells slots) (hx : p.tables.exec = Jvm.exec) {pc : Nat} {Ls : Array Slot} {w : Value} {t : FieldType} (hret : meth.sig.returnType = some t) (ht : t.isReference = true) (hv : w.isRef = true) (hd : decode c.code pc = .ok (.areturn, 1)) {fs : List Frame}
    (hl : ∀ (f : JFrame) (acts : List Action), f.method = m → f.locked = none → f.entered = [] → (doReturn e (T.setTop f) acts (some w)).1 = T.setFrames fs) : Steps p.tables e below (T.setTop (mkF m pc Ls [w])) (T.setFrames fs) := by
  have hm' : T.vm.method? m = some meth := X.method'
  show Steps p.tables e below (T.setTop { method := m, pc := pc, locals := Ls, stack := [w], locked := none }) _
  jvm_step X.here [X.here.top, hx, hd, hm', hret, hv, ht]
  first | (intro acts; rw [hl _ acts rfl rfl rfl]) | rw [hl _ _ rfl rfl rfl]
  exact Steps.refl _
theorem winI (X : Stand p l e R s m args below meth c T locs cells slots) (hx : p.tables.exec = Jvm.exec) (hlk : meth.locks = false) (eT : T.heap = h) {pc : Nat} {Ls : Array Slot} {z : Int32} {rest : List Value} (hret : meth.sig.returnType = some .int) (hd : decode c.code pc = .ok (.ireturn, 1))
    (hc : cells ≤ C) (hs : slots ≤ S) (hQ : Q (some (.int z)) h locs) : Win p.tables e below (PostQ s Q C S) (T.setTop (mkF m pc Ls (.int z :: rest))) := by
  subst eT
  obtain ⟨fs, hr, hrun, hended, hW, hsame⟩ := X.leave (v := some (.int z)) (fun h => by rw [hret] at h; cases h) hlk
  exact ⟨_, _, retI' X hx hret hd hr, hrun, hended, _, _, rfl, hQ, ⟨_, rfl⟩, hW, hsame.mono hc hs⟩
theorem winN (X : Stand p l e R s m args below meth c T locs cells slots) (hx : p.tables.exec = Jvm.exec) (hlk : meth.locks = false) (eT : T.heap = h) {pc : Nat} {Ls : Array Slot} {z z' : Int32} {rest : List Value} {t : FieldType} (hret : meth.sig.returnType = some t) (ht : t = .boolean ∨ t = .byte ∨ t = .char ∨ t = .short) (hd : decode c.code pc = .ok (.ireturn, 1))
    (hc : cells ≤ C) (hs : slots ≤ S) (hz : nar t z = z') (hQ : Q (some (.int z')) h locs) : Win p.tables e below (PostQ s Q C S) (T.setTop (mkF m pc Ls (.int z :: rest))) := by
  subst eT hz
  obtain ⟨fs, hr, hrun, hended, hW, hsame⟩ := X.leave (v := some (.int (nar t z))) (fun h => by rw [hret] at h; cases h) hlk
  exact ⟨_, _, retN X hx hret ht hd hr, hrun, hended, _, _, rfl, hQ, ⟨_, rfl⟩, hW, hsame.mono hc hs⟩
theorem winL (X : Stand p l e R s m args below meth c T locs cells slots) (hx : p.tables.exec = Jvm.exec) (hlk : meth.locks = false) (eT : T.heap = h) {pc : Nat} {Ls : Array Slot} {z : Int64} (hret : meth.sig.returnType = some .long) (hd : decode c.code pc = .ok (.lreturn, 1))
    (hc : cells ≤ C) (hs : slots ≤ S) (hQ : Q (some (.long z)) h locs) : Win p.tables e below (PostQ s Q C S) (T.setTop (mkF m pc Ls [.long z])) := by
  subst eT
  obtain ⟨fs, hr, hrun, hended, hW, hsame⟩ := X.leave (v := some (.long z)) (fun h => by rw [hret] at h; cases h) hlk
  exact ⟨_, _, X.lreturnOut hx hret hd hr, hrun, hended, _, _, rfl, hQ, ⟨_, rfl⟩, hW, hsame.mono hc hs⟩
theorem winA (X : Stand p l e R s m args below meth c T locs cells slots) (hx : p.tables.exec = Jvm.exec) (hlk : meth.locks = false) (eT : T.heap = h) {pc : Nat} {Ls : Array Slot} {w : Value} {t : FieldType} (hret : meth.sig.returnType = some t) (ht : t.isReference = true) (hv : w.isRef = true) (hd : decode c.code pc = .ok (.areturn, 1))
    (hc : cells ≤ C) (hs : slots ≤ S) (hQ : Q (some w) h locs) : Win p.tables e below (PostQ s Q C S) (T.setTop (mkF m pc Ls [w])) := by
  subst eT
  obtain ⟨fs, hr, hrun, hended, hW, hsame⟩ := X.leave (v := some w) (fun h => by rw [hret] at h; cases h) hlk
  exact ⟨_, _, retA' X hx hret ht hv hd hr, hrun, hended, _, _, rfl, hQ, ⟨_, rfl⟩, hW, hsame.mono hc hs⟩
theorem winV (X : Stand p l e R s m args below meth c T locs cells slots) (hx : p.tables.exec = Jvm.exec) (hlk : meth.locks = false) (eT : T.heap = h) {pc : Nat} {Ls : Array Slot} (hret : meth.sig.returnType = none) (hd : decode c.code pc = .ok (.return_, 1))
    (hc : cells ≤ C) (hs : slots ≤ S) (hQ : Q none h locs) : Win p.tables e below (PostQ s Q C S) (T.setTop (mkF m pc Ls [])) := by
  subst eT
  obtain ⟨fs, hr, hrun, hended, hW, hsame⟩ := X.leave (v := none) (fun _ => rfl) hlk
  exact ⟨_, _, X.returnOut hx hret hd hr, hrun, hended, _, _, rfl, hQ, ⟨_, rfl⟩, hW, hsame.mono hc hs⟩
def PostQW (s : State) (Q : Option Value → Heap → List Loc → Prop) (C S : Nat) (u : State) (o : Outcome) : Prop := ∃ v L, o = .returned v ∧ Q v u.heap L ∧ ReturnedEndW s o u L C S
theorem winNW {vm0 : Vm} {k0 : Nat} (hS : s.Since vm0 k0) (hk : k0 ≤ h.size) (X : Stand p l e R (s.setVm vm0) m args below meth c T locs cells slots) (hx : p.tables.exec = Jvm.exec) (hlk : meth.locks = false) (eT : T.heap = h) {pc : Nat} {Ls : Array Slot} {z z' : Int32} {rest : List Value} {t : FieldType} (hret : meth.sig.returnType = some t) (ht : t = .boolean ∨ t = .byte ∨ t = .char ∨ t = .short) (hd : decode c.code pc = .ok (.ireturn, 1))
    (hc : cells ≤ C) (hs : slots ≤ S) (hz : nar t z = z') (hQ : Q (some (.int z')) h locs) : Win p.tables e below (PostQW s Q C S) (T.setTop (mkF m pc Ls (.int z :: rest))) := by
  subst eT hz
  obtain ⟨fs, hr, hrun, hended, h1, h2, h3, h4⟩ := X.leaveW hS hk (v := some (.int (nar t z))) (fun h => by rw [hret] at h; cases h) hlk
  exact ⟨_, _, retN X hx hret ht hd hr, hrun, hended, _, _, rfl, hQ, ⟨_, rfl⟩, h2, h3, h4.mono hc hs⟩
end Ret
section Steps
variable {tb : Tables} [Ours tb] {e : Env} {below : List Frame} {P : State → Outcome → Prop} {T : State} {m : MethodId} {c : Code} {pc pc' : Nat} {ls : Array Slot} {st : List Value}
theorem s_iloadN {k : Fin 4} {v : Int32} (h : At T m c below) (hx : tb.exec = Jvm.exec) (hd : decode c.code pc = .ok (.iload_n k, 1)) (hp : pc + 1 = pc') (hl : ls[k.val]? = some (.val (.int v))) (w : Win tb e below P (T.setTop (mkF m pc' ls (.int v :: st)))) : Win tb e below P (T.setTop (mkF m pc ls st)) := by
  subst hp; exact Win.go (fun _ k => XS.iloadN h hx rfl hd hl k) w
theorem s_iload {k : Nat} {v : Int32} (h : At T m c below) (hx : tb.exec = Jvm.exec) (hd : decode c.code pc = .ok (.iload k, 2)) (hp : pc + 2 = pc') (hl : ls[k]? = some (.val (.int v))) (w : Win tb e below P (T.setTop (mkF m pc' ls (.int v :: st)))) : Win tb e below P (T.setTop (mkF m pc ls st)) := by
  subst hp; exact Win.go (fun _ k => XS.iload h hx rfl hd hl k) w
theorem s_lloadN {k : Fin 4} {v : Int64} (h : At T m c below) (hx : tb.exec = Jvm.exec) (hd : decode c.code pc = .ok (.lload_n k, 1)) (hp : pc + 1 = pc') (hl : ls[k.val]? = some (.val (.long v))) (w : Win tb e below P (T.setTop (mkF m pc' ls (.long v :: st)))) : Win tb e below P (T.setTop (mkF m pc ls st)) := by
  subst hp; exact Win.go (fun _ k => XS.lloadN h hx rfl hd hl k) w
theorem s_lload {k : Nat} {v : Int64} (h : At T m c below) (hx : tb.exec = Jvm.exec) (hd : decode c.code pc = .ok (.lload k, 2)) (hp : pc + 2 = pc') (hl : ls[k]? = some (.val (.long v))) (w : Win tb e below P (T.setTop (mkF m pc' ls (.long v :: st)))) : Win tb e below P (T.setTop (mkF m pc ls st)) := by
  subst hp; exact Win.go (fun _ k => XS.lload h hx rfl hd hl k) w
theorem s_aloadN {k : Fin 4} {v : Value} (h : At T m c below) (hx : tb.exec = Jvm.exec) (hd : decode c.code pc = .ok (.aload_n k, 1)) (hp : pc + 1 = pc') (hl : ls[k.val]? = some (.val v)) (hv : v.isRef = true) (w : Win tb e below P (T.setTop (mkF m pc' ls (v :: st)))) : Win tb e below P (T.setTop (mkF m pc ls st)) := by
  subst hp; exact Win.go (fun _ k => XS.aloadN h hx rfl hd hl hv k) w
theorem s_aload {k : Nat} {v : Value} (h : At T m c below) (hx : tb.exec = Jvm.exec) (hd : decode c.code pc = .ok (.aload k, 2)) (hp : pc + 2 = pc') (hl : ls[k]? = some (.val v)) (hv : v.isRef = true) (w : Win tb e below P (T.setTop (mkF m pc' ls (v :: st)))) : Win tb e below P (T.setTop (mkF m pc ls st)) := by
  subst hp; exact Win.go (fun _ k => XS.aload h hx rfl hd hl hv k) w
theorem s_iadd {x y : Int32} (h : At T m c below) (hx : tb.exec = Jvm.exec) (hd : decode c.code pc = .ok (.iadd, 1)) (hp : pc + 1 = pc') (w : Win tb e below P (T.setTop (mkF m pc' ls (.int (x + y) :: st)))) : Win tb e below P (T.setTop (mkF m pc ls (.int y :: .int x :: st))) := by
  subst hp; exact Win.go (fun _ k => XS.iadd h hx rfl hd rfl k) w
theorem s_isub {x y : Int32} (h : At T m c below) (hx : tb.exec = Jvm.exec) (hd : decode c.code pc = .ok (.isub, 1)) (hp : pc + 1 = pc') (w : Win tb e below P (T.setTop (mkF m pc' ls (.int (x - y) :: st)))) : Win tb e below P (T.setTop (mkF m pc ls (.int y :: .int x :: st))) := by
  subst hp; exact Win.go (fun _ k => XS.isub h hx rfl hd rfl k) w
theorem s_imul {x y : Int32} (h : At T m c below) (hx : tb.exec = Jvm.exec) (hd : decode c.code pc = .ok (.imul, 1)) (hp : pc + 1 = pc') (w : Win tb e below P (T.setTop (mkF m pc' ls (.int (x * y) :: st)))) : Win tb e below P (T.setTop (mkF m pc ls (.int y :: .int x :: st))) := by
  subst hp; exact Win.go (fun _ k => XS.imul h hx rfl hd rfl k) w
theorem s_iand {x y : Int32} (h : At T m c below) (hx : tb.exec = Jvm.exec) (hd : decode c.code pc = .ok (.iand, 1)) (hp : pc + 1 = pc') (w : Win tb e below P (T.setTop (mkF m pc' ls (.int (x &&& y) :: st)))) : Win tb e below P (T.setTop (mkF m pc ls (.int y :: .int x :: st))) := by
  subst hp; exact Win.go (fun _ k => XS.iand h hx rfl hd rfl k) w
theorem s_ior {x y : Int32} (h : At T m c below) (hx : tb.exec = Jvm.exec) (hd : decode c.code pc = .ok (.ior, 1)) (hp : pc + 1 = pc') (w : Win tb e below P (T.setTop (mkF m pc' ls (.int (x ||| y) :: st)))) : Win tb e below P (T.setTop (mkF m pc ls (.int y :: .int x :: st))) := by
  subst hp; exact Win.go (fun _ k => XS.ior h hx rfl hd rfl k) w
theorem s_ixor {x y : Int32} (h : At T m c below) (hx : tb.exec = Jvm.exec) (hd : decode c.code pc = .ok (.ixor, 1)) (hp : pc + 1 = pc') (w : Win tb e below P (T.setTop (mkF m pc' ls (.int (x ^^^ y) :: st)))) : Win tb e below P (T.setTop (mkF m pc ls (.int y :: .int x :: st))) := by
  subst hp; exact Win.go (fun _ k => XS.ixor h hx rfl hd rfl k) w
theorem s_ladd {x y : Int64} (h : At T m c below) (hx : tb.exec = Jvm.exec) (hd : decode c.code pc = .ok (.ladd, 1)) (hp : pc + 1 = pc') (w : Win tb e below P (T.setTop (mkF m pc' ls (.long (x + y) :: st)))) : Win tb e below P (T.setTop (mkF m pc ls (.long y :: .long x :: st))) := by
  subst hp; exact Win.go (fun _ k => XS.ladd h hx rfl hd rfl k) w
theorem s_lsub {x y : Int64} (h : At T m c below) (hx : tb.exec = Jvm.exec) (hd : decode c.code pc = .ok (.lsub, 1)) (hp : pc + 1 = pc') (w : Win tb e below P (T.setTop (mkF m pc' ls (.long (x - y) :: st)))) : Win tb e below P (T.setTop (mkF m pc ls (.long y :: .long x :: st))) := by
  subst hp; exact Win.go (fun _ k => XS.lsub h hx rfl hd rfl k) w
theorem s_lmul {x y : Int64} (h : At T m c below) (hx : tb.exec = Jvm.exec) (hd : decode c.code pc = .ok (.lmul, 1)) (hp : pc + 1 = pc') (w : Win tb e below P (T.setTop (mkF m pc' ls (.long (x * y) :: st)))) : Win tb e below P (T.setTop (mkF m pc ls (.long y :: .long x :: st))) := by
  subst hp; exact Win.go (fun _ k => XS.lmul h hx rfl hd rfl k) w
theorem s_land {x y : Int64} (h : At T m c below) (hx : tb.exec = Jvm.exec) (hd : decode c.code pc = .ok (.land, 1)) (hp : pc + 1 = pc') (w : Win tb e below P (T.setTop (mkF m pc' ls (.long (x &&& y) :: st)))) : Win tb e below P (T.setTop (mkF m pc ls (.long y :: .long x :: st))) := by
  subst hp; exact Win.go (fun _ k => XS.land h hx rfl hd rfl k) w
theorem s_lor {x y : Int64} (h : At T m c below) (hx : tb.exec = Jvm.exec) (hd : decode c.code pc = .ok (.lor, 1)) (hp : pc + 1 = pc') (w : Win tb e below P (T.setTop (mkF m pc' ls (.long (x ||| y) :: st)))) : Win tb e below P (T.setTop (mkF m pc ls (.long y :: .long x :: st))) := by
  subst hp; exact Win.go (fun _ k => XS.lor h hx rfl hd rfl k) w
theorem s_lxor {x y : Int64} (h : At T m c below) (hx : tb.exec = Jvm.exec) (hd : decode c.code pc = .ok (.lxor, 1)) (hp : pc + 1 = pc') (w : Win tb e below P (T.setTop (mkF m pc' ls (.long (x ^^^ y) :: st)))) : Win tb e below P (T.setTop (mkF m pc ls (.long y :: .long x :: st))) := by
  subst hp; exact Win.go (fun _ k => XS.lxor h hx rfl hd rfl k) w
theorem s_iconst {i : Int} {z : Int32} (h : At T m c below) (hx : tb.exec = Jvm.exec) (hd : decode c.code pc = .ok (.iconst i, 1)) (hp : pc + 1 = pc') (hz : Int32.ofInt i = z) (w : Win tb e below P (T.setTop (mkF m pc' ls (.int z :: st)))) : Win tb e below P (T.setTop (mkF m pc ls st)) := by
  subst hp hz; exact Win.go (fun _ k => XS.iconst h hx rfl hd k) w
theorem s_bipush {i : Int} {z : Int32} (h : At T m c below) (hx : tb.exec = Jvm.exec) (hd : decode c.code pc = .ok (.bipush i, 2)) (hp : pc + 2 = pc') (hz : (Int8.ofInt i).toInt32 = z) (w : Win tb e below P (T.setTop (mkF m pc' ls (.int z :: st)))) : Win tb e below P (T.setTop (mkF m pc ls st)) := by
  subst hp hz; exact Win.go (fun _ k => XS.bipush h hx rfl hd k) w
theorem s_sipush {i : Int} {z : Int32} (h : At T m c below) (hx : tb.exec = Jvm.exec) (hd : decode c.code pc = .ok (.sipush i, 3)) (hp : pc + 3 = pc') (hz : (Int16.ofInt i).toInt32 = z) (w : Win tb e below P (T.setTop (mkF m pc' ls (.int z :: st)))) : Win tb e below P (T.setTop (mkF m pc ls st)) := by
  subst hp hz; exact Win.go (fun _ k => XS.sipush h hx rfl hd k) w
theorem s_lconst {i : Fin 2} {z : Int64} (h : At T m c below) (hx : tb.exec = Jvm.exec) (hd : decode c.code pc = .ok (.lconst i, 1)) (hp : pc + 1 = pc') (hz : Int64.ofNat i = z) (w : Win tb e below P (T.setTop (mkF m pc' ls (.long z :: st)))) : Win tb e below P (T.setTop (mkF m pc ls st)) := by
  subst hp hz; exact Win.go (fun _ k => XS.lconst h hx rfl hd k) w
theorem s_goto {o : Int} (h : At T m c below) (hx : tb.exec = Jvm.exec) (hd : decode c.code pc = .ok (.goto o, 3)) (ho : 0 ≤ (pc : Int) + o) (hp : ((pc : Int) + o).toNat = pc') (w : Win tb e below P (T.setTop (mkF m pc' ls st))) : Win tb e below P (T.setTop (mkF m pc ls st)) := by
  exact Win.go (fun _ k => XS.goto h hx rfl rfl hd ho hp k) w
theorem s_icmpYes {cd : ClassFile.Cond} {o : Int} {x y : Int32} (h : At T m c below) (hx : tb.exec = Jvm.exec) (hd : decode c.code pc = .ok (.if_icmp cd o, 3)) (hc : if_icmp.holds cd x y = true) (ho : 0 ≤ (pc : Int) + o) (hp : ((pc : Int) + o).toNat = pc') (w : Win tb e below P (T.setTop (mkF m pc' ls st))) : Win tb e below P (T.setTop (mkF m pc ls (.int y :: .int x :: st))) := by
  exact Win.go (fun _ k => XS.icmpYes h hx rfl rfl hd rfl hc ho hp k) w
theorem s_icmpNo {cd : ClassFile.Cond} {o : Int} {x y : Int32} (h : At T m c below) (hx : tb.exec = Jvm.exec) (hd : decode c.code pc = .ok (.if_icmp cd o, 3)) (hp : pc + 3 = pc') (hc : if_icmp.holds cd x y = false) (w : Win tb e below P (T.setTop (mkF m pc' ls st))) : Win tb e below P (T.setTop (mkF m pc ls (.int y :: .int x :: st))) := by
  subst hp; exact Win.go (fun _ k => XS.icmpNo h hx rfl hd rfl hc k) w
theorem s_ifYes {cd : ClassFile.Cond} {o : Int} {x : Int32} (h : At T m c below) (hx : tb.exec = Jvm.exec) (hd : decode c.code pc = .ok (.ifCond cd o, 3)) (hc : ifCond.holds cd x = true) (ho : 0 ≤ (pc : Int) + o) (hp : ((pc : Int) + o).toNat = pc') (w : Win tb e below P (T.setTop (mkF m pc' ls st))) : Win tb e below P (T.setTop (mkF m pc ls (.int x :: st))) := by
  exact Win.go (fun _ k => XS.ifYes h hx rfl rfl hd rfl hc ho hp k) w
theorem s_ifNo {cd : ClassFile.Cond} {o : Int} {x : Int32} (h : At T m c below) (hx : tb.exec = Jvm.exec) (hd : decode c.code pc = .ok (.ifCond cd o, 3)) (hp : pc + 3 = pc') (hc : ifCond.holds cd x = false) (w : Win tb e below P (T.setTop (mkF m pc' ls st))) : Win tb e below P (T.setTop (mkF m pc ls (.int x :: st))) := by
  subst hp; exact Win.go (fun _ k => XS.ifNo h hx rfl hd rfl hc k) w
theorem s_lcmp {x y : Int64} (h : At T m c below) (hx : tb.exec = Jvm.exec) (hd : decode c.code pc = .ok (.lcmp, 1)) (hp : pc + 1 = pc') (w : Win tb e below P (T.setTop (mkF m pc' ls (.int (lcmpW x y) :: st)))) : Win tb e below P (T.setTop (mkF m pc ls (.long y :: .long x :: st))) := by
  subst hp; exact Win.go (fun _ k => XS.lcmp h hx rfl hd rfl k) w
theorem s_istore {k : Nat} {x : Int32} {l' : Array Slot} (h : At T m c below) (hx : tb.exec = Jvm.exec) (hd : decode c.code pc = .ok (.istore k, 2)) (hp : pc + 2 = pc') (hl : storeLocals ls k (.int x) = some l') (w : Win tb e below P (T.setTop (mkF m pc' l' st))) : Win tb e below P (T.setTop (mkF m pc ls (.int x :: st))) := by
  subst hp; exact Win.go (fun _ k => XS.istore h hx rfl hd rfl hl k) w
theorem s_istoreN {k : Fin 4} {x : Int32} {l' : Array Slot} (h : At T m c below) (hx : tb.exec = Jvm.exec) (hd : decode c.code pc = .ok (.istore_n k, 1)) (hp : pc + 1 = pc') (hl : storeLocals ls k.val (.int x) = some l') (w : Win tb e below P (T.setTop (mkF m pc' l' st))) : Win tb e below P (T.setTop (mkF m pc ls (.int x :: st))) := by
  subst hp; exact Win.go (fun _ k => XS.istoreN h hx rfl hd rfl hl k) w
theorem s_lstore {k : Nat} {x : Int64} {l' : Array Slot} (h : At T m c below) (hx : tb.exec = Jvm.exec) (hd : decode c.code pc = .ok (.lstore k, 2)) (hp : pc + 2 = pc') (hl : storeLocals ls k (.long x) = some l') (w : Win tb e below P (T.setTop (mkF m pc' l' st))) : Win tb e below P (T.setTop (mkF m pc ls (.long x :: st))) := by
  subst hp; exact Win.go (fun _ k => XS.lstore h hx rfl hd rfl hl k) w
theorem s_lstoreN {k : Fin 4} {x : Int64} {l' : Array Slot} (h : At T m c below) (hx : tb.exec = Jvm.exec) (hd : decode c.code pc = .ok (.lstore_n k, 1)) (hp : pc + 1 = pc') (hl : storeLocals ls k.val (.long x) = some l') (w : Win tb e below P (T.setTop (mkF m pc' l' st))) : Win tb e below P (T.setTop (mkF m pc ls (.long x :: st))) := by
  subst hp; exact Win.go (fun _ k => XS.lstoreN h hx rfl hd rfl hl k) w
theorem s_astore {k : Nat} {x : Value} {l' : Array Slot} (h : At T m c below) (hx : tb.exec = Jvm.exec) (hd : decode c.code pc = .ok (.astore k, 2)) (hp : pc + 2 = pc') (hv : x.isRef = true) (hl : storeLocals ls k x = some l') (w : Win tb e below P (T.setTop (mkF m pc' l' st))) : Win tb e below P (T.setTop (mkF m pc ls (x :: st))) := by
  subst hp; exact Win.go (fun _ k => XS.astore h hx rfl hd rfl hv hl k) w
theorem s_astoreN {k : Fin 4} {x : Value} {l' : Array Slot} (h : At T m c below) (hx : tb.exec = Jvm.exec) (hd : decode c.code pc = .ok (.astore_n k, 1)) (hp : pc + 1 = pc') (hv : x.isRef = true) (hl : storeLocals ls k.val x = some l') (w : Win tb e below P (T.setTop (mkF m pc' l' st))) : Win tb e below P (T.setTop (mkF m pc ls (x :: st))) := by
  subst hp; exact Win.go (fun _ k => XS.astoreN h hx rfl hd rfl hv hl k) w
theorem s_dup {x : Value} (h : At T m c below) (hx : tb.exec = Jvm.exec) (hd : decode c.code pc = .ok (.dup, 1)) (hp : pc + 1 = pc') (hc : x.category = 1) (w : Win tb e below P (T.setTop (mkF m pc' ls (x :: x :: st)))) : Win tb e below P (T.setTop (mkF m pc ls (x :: st))) := by
  subst hp; exact Win.go (fun _ k => XS.dup h hx rfl hd rfl hc k) w
end Steps
/-- an array of ints by its places: place j holds f j -/
def AF (Z : State) (h : Heap) (a : Addr) (ty : FieldType) (n : Nat) (f : Int → Int32) : Prop := ∃ cl : Cell, Arr Z h a cl ty ∧ cl.slots.size = n ∧ ∀ j : Int32, 0 ≤ j.toInt → j.toInt < n → cl.slots[j.toNatClampNeg]? = some (.int (f j.toInt))
section AFs
variable {Z : State} {h h' : Heap} {a b : Addr} {ty : FieldType} {n : Nat} {f : Int → Int32} {ws : List Addr} {sl : Nat} {v : Value}
theorem AF.lt (F : AF Z h a ty n f) : a < h.size := by obtain ⟨c, A, -⟩ := F; exact A.lt
theorem AF.ext (F : AF Z h a ty n f) (E : Ext h h') : AF Z h' a ty n f := by obtain ⟨c, A, r⟩ := F; exact ⟨c, A.ext E, r⟩
theorem AF.other (F : AF Z h b ty n f) (W : Wr h h' a sl v) (q : b ≠ a) : AF Z h' b ty n f := by obtain ⟨c, A, r⟩ := F; exact ⟨c, A.other W q, r⟩
theorem AF.keep (F : AF Z h a ty n f) (K : Keep h h' ws) (q : a ∉ ws) : AF Z h' a ty n f := by obtain ⟨c, A, r⟩ := F; exact ⟨c, ⟨K.2.1 a c A.1 q, A.2⟩, r⟩
theorem AF.inb {c : Cell} {j : Int32} (S : c.slots.size = n) (q : 0 ≤ j.toInt ∧ j.toInt < n) : ¬ (j < 0 ∨ c.slots.size ≤ j.toNatClampNeg) := by
  rw [S, Int32.lt_iff_toInt_lt]; have e0 : (0 : Int32).toInt = 0 := rfl
  simp only [Int32.toNatClampNeg]; omega
def updF (f : Int → Int32) (j : Int) (v : Int32) : Int → Int32 := fun i => if i = j then v else f i
theorem updF_hit (f : Int → Int32) (j : Int) (v : Int32) : updF f j v j = v := if_pos rfl
theorem updF_miss {f : Int → Int32} {i j : Int} {v : Int32} (q : i ≠ j) : updF f j v i = f i := if_neg q
theorem AF.set {cl : Cell} {j v : Int32} (A : Arr Z h a cl ty) (S : cl.slots.size = n) (G : ∀ j : Int32, 0 ≤ j.toInt → j.toInt < n → cl.slots[j.toNatClampNeg]? = some (.int (f j.toInt))) (W : Wr h h' a j.toNatClampNeg (.int v)) (q : 0 ≤ j.toInt ∧ j.toInt < n) : AF Z h' a ty n (updF f j.toInt v) := by
  have e0 : (0 : Int32).toInt = 0 := rfl
  refine ⟨_, A.same W, by rw [sz_set]; exact S, fun k h0 h1 => ?_⟩
  by_cases e : k = j
  · subst e; rw [get_hit (AF.inb S q) rfl, updF_hit]
  · rw [get_miss (by rw [Int32.lt_iff_toInt_lt]; omega) (by rw [Int32.lt_iff_toInt_lt]; omega) e, updF_miss (fun z => e (Int32.toInt_inj.mp z))]; exact G k h0 h1
theorem AF.zero {k : ClassId} {z : Int32} (F : Arv Z h a k ty z [] (.int 0)) (q : z.toNatClampNeg = n) : AF Z h a ty n (fun _ => 0) := by
  obtain ⟨c, A, -, S, -, H, -⟩ := F
  refine ⟨c, A, S.trans q, fun j h0 h1 => ?_⟩
  have e : j.toNatClampNeg = j.toInt.toNat := rfl
  exact H _ (by rw [S, q, e]; omega)
theorem AF.ex {k : ClassId} {z : Int32} {vs : List Value} {dv : Value} (F : Arv Z h a k .byte z vs dv) (q : z.toNatClampNeg = n) : ∃ f, AF Z h a .byte n f := by
  obtain ⟨c, A, -, S, -, H, G⟩ := F
  refine ⟨fun i => match c.slots[i.toNat]? with | some (.int x) => x | _ => 0, c, A, S.trans q, fun j h0 h1 => ?_⟩
  have e : j.toNatClampNeg = j.toInt.toNat := rfl
  have hj : j.toInt.toNat < c.slots.size := by rw [S, q]; omega
  have e1 := H _ hj
  have e2 := G _ hj
  show c.slots[j.toInt.toNat]? = some (.int (match c.slots[j.toInt.toNat]? with | some (.int x) => x | _ => 0))
  cases hv : vs.getD j.toInt.toNat dv <;> rw [hv] at e1 e2 <;> first | (rw [e1]; done) | (exact absurd e2 (by simp [fits]))
/-- a byte array of length z -/
def BA (Z : State) (h : Heap) (a : Addr) (z : Int32) : Prop := ∃ (k : ClassId) (vs : List Value), Arv Z h a k .byte z vs (.int 0)
variable {z : Int32}
theorem BA.lt (F : BA Z h a z) : a < h.size := by obtain ⟨_, _, A⟩ := F; exact A.lt
theorem BA.ext (F : BA Z h a z) (E : Ext h h') : BA Z h' a z := by obtain ⟨k, vs, A⟩ := F; exact ⟨k, vs, A.ext E⟩
theorem BA.other (F : BA Z h b z) (W : Wr h h' a sl v) (q : b ≠ a) : BA Z h' b z := by obtain ⟨k, vs, A⟩ := F; exact ⟨k, vs, A.other W q⟩
theorem BA.keep (F : BA Z h a z) (K : Keep h h' ws) (q : a ∉ ws) : BA Z h' a z := by obtain ⟨k, vs, A⟩ := F; exact ⟨k, vs, A.keep K q⟩
theorem cpBA {p : Program} {l : Launch} {e : Env} {R : Room} {s : State} {m : MethodId} {args : Array Value} {below : List Frame} {meth : Method} {c : Code} {T : State} {locs : List Loc} {cells slots : Nat}
    (X : Stand p l e R s m args below meth c T locs cells slots) (hx : p.tables.exec = Jvm.exec) (hZ : Z.Warmed39 s.vm) {a0 : Array Value} {own : String} {index : Nat} (hown : s.vm.findClass own = some m.cls)
    (w1 : (Cond.methodLink own index Jvm.Stand.acN).before a0 Z = true) (w2 : (Cond.native Jvm.Stand.acN).before a0 Z = true) (w3 : (Cond.static Jvm.Stand.acN).before a0 Z = true) (w4 : (Cond.initialized "java/lang/System").before a0 Z = true) (eT : T.heap = h)
    {z' sp dp nn : Int32} (A : BA Z h a z) (B : BA Z h b z') (h1 : 0 ≤ sp.toInt) (h2 : 0 ≤ dp.toInt) (h3 : 0 ≤ nn.toInt) (h4 : sp.toInt + nn.toInt ≤ z.toInt) (h5 : dp.toInt + nn.toInt ≤ z'.toInt) {n0 : Nat} (N : Fr n0 locs) (ge : n0 ≤ b)
    {g : JFrame} (hg : g.method = m) (hsize : g.locals.size = c.maxLocals) {rest : List Value} (hs : g.stack = .int nn :: .int dp :: .ref b :: .int sp :: .ref a :: rest) (hd : decode c.code g.pc = .ok (.invokestatic index, 3))
    (hf : 1 ≤ R.frames) {W : Nat} (hW : 2 * g.monitorRoom + (rest.map fun v => v.category).sum ≤ W) (hlo : W + (nativeFrameWords "java/lang/System" "arraycopy" 5 + 11) ≤ R.locals) :
    ∃ T' h' L, Stand p l e R s m args below meth c T' L cells slots ∧ T'.heap = h' ∧ Fr n0 L ∧ Keep h h' [b] ∧ BA Z h' b z' ∧
      ∀ target, Steps p.tables e below (T'.setTop { g with pc := g.pc + 3, stack := rest }) target → Steps p.tables e below (T.setTop g) target := by
  have e0 : (0 : Int32).toInt = 0 := rfl
  obtain ⟨k, vs, A⟩ := A
  obtain ⟨k', vd, B⟩ := B
  have B' := B.pad (pad_rep vd (.int 0) z'.toNatClampNeg)
  obtain ⟨T', h', L, X', e', N', K, B2, st⟩ := cpA X hx hZ hown w1 w2 w3 w4 eT A B' (Or.inl ⟨rfl, rfl⟩) (by rw [Int32.lt_iff_toInt_lt]; omega) (by rw [Int32.lt_iff_toInt_lt]; omega) (by rw [Int32.lt_iff_toInt_lt]; omega) (by simp only [Int32.toNatClampNeg]; omega) (by simp only [Int32.toNatClampNeg]; omega) rfl (by simp only [List.length_append, List.length_replicate, Int32.toNatClampNeg]; omega) N ge hg hsize hs hd hf hW hlo
  exact ⟨T', h', L, X', e', N', K, ⟨k', _, B2⟩, st⟩
end AFs
theorem own_selPriv {s : State} {args : Array Value} {y y' : MethodName} (hn : y.cls = y'.cls) (w : (Cond.selects y'.cls y' y').before args s = true) (hpriv : s.PrivateAt y) (hinst : (Cond.instanceMethod y).before args s = true) (hy : y.cls ≠ "java/lang/invoke/MethodHandle" ∧ y.cls ≠ "java/lang/invoke/VarHandle") : (Cond.selects y.cls y y).before args s = true := by
  obtain ⟨c, r, m, h1, -, h3, -, k, h5, h6⟩ := Cond.selects_spec w
  have h7 := findClass_of_methodNamed h3
  cases h1.symm.trans h7
  exact selects_self_of_private (by rw [hn]; exact h7) h5 h6 hpriv hinst hy
theorem own_lremEq (x y : Int64) : x - (x / y) * y = x % y := by
  refine Int64.toInt_inj.mp ?_
  have h1 := rng64 (x % y)
  have e : x.toInt - x.toInt.tdiv y.toInt * y.toInt = (x % y).toInt := by rw [Int64.toInt_mod, Int.tmod_def, Int.mul_comm]
  rw [Int64.toInt_sub, Int64.toInt_mul, Int64.toInt_div, Int.bmod_mul_bmod, Int.sub_bmod_bmod, e]
  exact Int.bmod_eq_of_le_mul_two (by omega) (by omega)
theorem lremM {p : Program} {l : Launch} {e : Env} {R : Room} {s : State} {m : MethodId} {args : Array Value} {below : List Frame} {meth : Method} {c : Code} {T : State} {locs : List Loc} {cells slots : Nat} {g : JFrame} {target : State} (X : Stand p l e R s m args below meth c T locs cells slots) (hx : p.tables.exec = Jvm.exec) (hg : g.method = m) {x y : Int64} {rest : List Value} (hd : decode c.code g.pc = .ok (.lrem, 1)) (hs : g.stack = .long y :: .long x :: rest) (hy : y ≠ 0)
    (hr : Steps p.tables e below (T.setTop { g with pc := g.pc + 1, stack := .long (x % y) :: rest }) target) : Steps p.tables e below (T.setTop g) target :=
  XS.lrem X.here hx hg hd hs hy (by rw [own_lremEq]; exact hr)
/-! comparisons by the numbers -/
theorem tltI {x y : Int32} (h : x.toInt < y.toInt) : if_icmp.holds .lt x y = true ∧ if_icmp.holds .ge x y = false ∧ if_icmp.holds .gt y x = true ∧ if_icmp.holds .le y x = false := tlt (Int32.lt_iff_toInt_lt.mpr h)
theorem fltI {x y : Int32} (h : ¬ x.toInt < y.toInt) : if_icmp.holds .lt x y = false ∧ if_icmp.holds .ge x y = true ∧ if_icmp.holds .gt y x = false ∧ if_icmp.holds .le y x = true := flt (fun q => h (Int32.lt_iff_toInt_lt.mp q))
theorem teqI {x y : Int32} (h : x.toInt = y.toInt) : if_icmp.holds .eq x y = true ∧ if_icmp.holds .ne x y = false := teq (Int32.toInt_inj.mp h)
theorem feqI {x y : Int32} (h : ¬ x.toInt = y.toInt) : if_icmp.holds .eq x y = false ∧ if_icmp.holds .ne x y = true := feq (fun q => h (congrArg _ q))
theorem tltZ {x y : Int32} (h : x.toInt < y.toInt) : (y = 0 → ifCond.holds .lt x = true ∧ ifCond.holds .ge x = false) ∧ (x = 0 → ifCond.holds .gt y = true ∧ ifCond.holds .le y = false) :=
  ⟨fun q => by subst q; exact ⟨(if0 _ _).trans (tltI h).1, (if0 _ _).trans (tltI h).2.1⟩, fun q => by subst q; exact ⟨(if0 _ _).trans (tltI h).2.2.1, (if0 _ _).trans (tltI h).2.2.2⟩⟩
theorem tltL {x y : Int64} (h : x.toInt < y.toInt) : ifCond.holds .lt (lcmpW x y) = true ∧ ifCond.holds .ge (lcmpW x y) = false ∧ ifCond.holds .gt (lcmpW y x) = true ∧ ifCond.holds .le (lcmpW y x) = false :=
  have h' := Int64.lt_iff_toInt_lt.mpr h
  ⟨(if0 _ _).trans (tlt ((lw_lt x y).mpr h')).1, (if0 _ _).trans (tlt ((lw_lt x y).mpr h')).2.1, (if0 _ _).trans (tlt ((lw_gt y x).mpr h')).2.2.1, (if0 _ _).trans (tlt ((lw_gt y x).mpr h')).2.2.2⟩
theorem fltL {x y : Int64} (h : ¬ x.toInt < y.toInt) : ifCond.holds .lt (lcmpW x y) = false ∧ ifCond.holds .ge (lcmpW x y) = true ∧ ifCond.holds .gt (lcmpW y x) = false ∧ ifCond.holds .le (lcmpW y x) = true :=
  have h1 : ¬ lcmpW x y < 0 := fun q => h (Int64.lt_iff_toInt_lt.mp ((lw_lt x y).mp q))
  have h2 : ¬ 0 < lcmpW y x := fun q => h (Int64.lt_iff_toInt_lt.mp ((lw_gt y x).mp q))
  ⟨(if0 _ _).trans (flt h1).1, (if0 _ _).trans (flt h1).2.1, (if0 _ _).trans (flt h2).2.2.1, (if0 _ _).trans (flt h2).2.2.2⟩
theorem teqL {x y : Int64} (h : x.toInt = y.toInt) : ifCond.holds .eq (lcmpW x y) = true ∧ ifCond.holds .ne (lcmpW x y) = false :=
  have h' := (lw_eq x y).mpr (Int64.toInt_inj.mp h)
  ⟨(if0 _ _).trans (teq h').1, (if0 _ _).trans (teq h').2⟩
theorem feqL {x y : Int64} (h : ¬ x.toInt = y.toInt) : ifCond.holds .eq (lcmpW x y) = false ∧ ifCond.holds .ne (lcmpW x y) = true :=
  have h' : ¬ lcmpW x y = 0 := fun q => h (congrArg _ ((lw_eq x y).mp q))
  ⟨(if0 _ _).trans (feq h').1, (if0 _ _).trans (feq h').2⟩
end Jvm.OwnWalk
namespace Jvm.Pilot.@@N@@
open Jvm Jvm.ClassFile Sem Op Lib Jvm.Free Jvm.Stand Jvm.LawKit Jvm.RoadKit Bundle Jvm.OwnWalk Jvm.Pilot.@@N@@.Jvm.D
theorem own_fin {v : Int32} {N : Nat} (h0 : 0 ≤ v.toInt) (h1 : v.toInt < N) : ∃ k : Fin N, v = Int32.ofNat k.val := by
  refine ⟨⟨v.toInt.toNat, by omega⟩, Int32.toInt_inj.mp ?_⟩
  have := v.toInt_lt
  rw [Int32.toInt_ofNat_of_lt (by simp only; omega)]; simp only; omega
def hstep (h : Int64) (b : Int32) : Int64 := (h ^^^ ((b &&& (255 : Int32)).toInt64)) * (1099511628211 : Int64)
def hA (h : Int64) : Int64 := (h ^^^ (XT.ushrL h (33 : Int32)))
def hmix (h : Int64) : Int64 := hA ((hA ((hA h) * (-49064778989728563 : Int64))) * (-4265267296055464877 : Int64))
theorem own_ushrL (x : Int64) (y : Int32) (k : Nat) (hk : ((y.toInt64.toUInt64 &&& Int64.toUInt64 63).toBitVec % 64#64).toNat = k) : (XT.ushrL x y).toBitVec = x.toBitVec >>> k := by
  show x.toBitVec >>> ((y.toInt64.toUInt64 &&& Int64.toUInt64 63).toBitVec % 64#64) = _
  rw [BitVec.ushiftRight_eq', hk]
theorem own_hA (x : Int64) : hA (hA x) = x := by
  apply Int64.toBitVec_inj.mp
  simp only [hA, Int64.toBitVec_xor, own_ushrL _ 33 33 (by decide)]
  rw [BitVec.ushiftRight_xor_distrib, ← BitVec.shiftRight_add]
  have z : x.toBitVec >>> (33 + 33) = 0#64 := BitVec.ushiftRight_eq_zero (by omega)
  rw [z, BitVec.xor_zero, BitVec.xor_assoc, BitVec.xor_self, BitVec.xor_zero]
theorem own_un (h : Int64) : hA ((hA ((hA (hmix h)) * (-7154897129451604005 : Int64))) * (5725274745694666757 : Int64)) = h := by
  unfold hmix
  rw [own_hA, Int64.mul_assoc, show ((-4265267296055464877 : Int64) * (-7154897129451604005 : Int64)) = 1 from by decide, Int64.mul_one, own_hA, Int64.mul_assoc, show ((-49064778989728563 : Int64) * (5725274745694666757 : Int64)) = 1 from by decide, Int64.mul_one, own_hA]
theorem own_byte (b : Int32) : ((nar .byte (b.toInt8.toInt32)) &&& (255 : Int32)) = b &&& (255 : Int32) := by
  apply Int32.toInt_inj.mp
  have h1 : ∀ y : Int32, (y &&& (255 : Int32)).toInt = y.toInt % 256 := fun y => c_mask y 255 8 (by decide) (by decide)
  rw [h1, h1]
  show ((b.toInt8.toInt32).toInt8.toInt32).toInt % 256 = _
  have h2 := c_i2b b
  have h3 := c_i2b (b.toInt8.toInt32)
  omega
theorem own_peel (s : Int64) (b : Int32) : ((hstep s (nar .byte (b.toInt8.toInt32))) * (-3560570117845248645 : Int64)) ^^^ ((b &&& (255 : Int32)).toInt64) = s := by
  unfold hstep
  rw [own_byte, Int64.mul_assoc, show ((1099511628211 : Int64) * (-3560570117845248645 : Int64)) = 1 from by decide, Int64.mul_one, Int64.xor_assoc, Int64.xor_self, Int64.xor_zero]
theorem own_five {v : Int32} (h0 : 0 ≤ v.toInt) (h1 : v.toInt ≤ 4) : v = 0 ∨ v = 1 ∨ v = 2 ∨ v = 3 ∨ v = 4 := by
  have e : ∀ k : Int32, v.toInt = k.toInt → v = k := fun k q => Int32.toInt_inj.mp q
  have : v.toInt = 0 ∨ v.toInt = 1 ∨ v.toInt = 2 ∨ v.toInt = 3 ∨ v.toInt = 4 := by omega
  rcases this with q | q | q | q | q
  · exact Or.inl (e 0 q)
  · exact Or.inr (Or.inl (e 1 q))
  · exact Or.inr (Or.inr (Or.inl (e 2 q)))
  · exact Or.inr (Or.inr (Or.inr (Or.inl (e 3 q))))
  · exact Or.inr (Or.inr (Or.inr (Or.inr (e 4 q))))
theorem d1_0 : decode prog_75_method_21_code 0 = .ok (.ldc2_w 380, 3) := by decide +kernel
theorem d1_3 : decode prog_75_method_21_code 3 = .ok (.lstore_n 1, 1) := by decide +kernel
theorem d1_4 : decode prog_75_method_21_code 4 = .ok (.aload_n 0, 1) := by decide +kernel
theorem d1_5 : decode prog_75_method_21_code 5 = .ok (.astore_n 3, 1) := by decide +kernel
theorem d1_6 : decode prog_75_method_21_code 6 = .ok (.aload_n 3, 1) := by decide +kernel
theorem d1_7 : decode prog_75_method_21_code 7 = .ok (.arraylength, 1) := by decide +kernel
theorem d1_8 : decode prog_75_method_21_code 8 = .ok (.istore 4, 2) := by decide +kernel
theorem d1_10 : decode prog_75_method_21_code 10 = .ok (.iconst 0, 1) := by decide +kernel
theorem d1_11 : decode prog_75_method_21_code 11 = .ok (.istore 5, 2) := by decide +kernel
theorem d1_13 : decode prog_75_method_21_code 13 = .ok (.iload 5, 2) := by decide +kernel
theorem d1_15 : decode prog_75_method_21_code 15 = .ok (.iload 4, 2) := by decide +kernel
theorem d1_17 : decode prog_75_method_21_code 17 = .ok (.if_icmp .ge 31, 3) := by decide +kernel
theorem d1_48 : decode prog_75_method_21_code 48 = .ok (.lload_n 1, 1) := by decide +kernel
theorem d1_49 : decode prog_75_method_21_code 49 = .ok (.lload_n 1, 1) := by decide +kernel
theorem d1_50 : decode prog_75_method_21_code 50 = .ok (.bipush 33, 2) := by decide +kernel
theorem d1_52 : decode prog_75_method_21_code 52 = .ok (.lushr, 1) := by decide +kernel
theorem d1_53 : decode prog_75_method_21_code 53 = .ok (.lxor, 1) := by decide +kernel
theorem d1_54 : decode prog_75_method_21_code 54 = .ok (.lstore_n 1, 1) := by decide +kernel
theorem d1_55 : decode prog_75_method_21_code 55 = .ok (.lload_n 1, 1) := by decide +kernel
theorem d1_56 : decode prog_75_method_21_code 56 = .ok (.ldc2_w 384, 3) := by decide +kernel
theorem d1_59 : decode prog_75_method_21_code 59 = .ok (.lmul, 1) := by decide +kernel
theorem d1_60 : decode prog_75_method_21_code 60 = .ok (.lstore_n 1, 1) := by decide +kernel
theorem d1_61 : decode prog_75_method_21_code 61 = .ok (.lload_n 1, 1) := by decide +kernel
theorem d1_62 : decode prog_75_method_21_code 62 = .ok (.lload_n 1, 1) := by decide +kernel
theorem d1_63 : decode prog_75_method_21_code 63 = .ok (.bipush 33, 2) := by decide +kernel
theorem d1_65 : decode prog_75_method_21_code 65 = .ok (.lushr, 1) := by decide +kernel
theorem d1_66 : decode prog_75_method_21_code 66 = .ok (.lxor, 1) := by decide +kernel
theorem d1_67 : decode prog_75_method_21_code 67 = .ok (.lstore_n 1, 1) := by decide +kernel
theorem d1_68 : decode prog_75_method_21_code 68 = .ok (.lload_n 1, 1) := by decide +kernel
theorem d1_69 : decode prog_75_method_21_code 69 = .ok (.ldc2_w 386, 3) := by decide +kernel
theorem d1_72 : decode prog_75_method_21_code 72 = .ok (.lmul, 1) := by decide +kernel
theorem d1_73 : decode prog_75_method_21_code 73 = .ok (.lstore_n 1, 1) := by decide +kernel
theorem d1_74 : decode prog_75_method_21_code 74 = .ok (.lload_n 1, 1) := by decide +kernel
theorem d1_75 : decode prog_75_method_21_code 75 = .ok (.lload_n 1, 1) := by decide +kernel
theorem d1_76 : decode prog_75_method_21_code 76 = .ok (.bipush 33, 2) := by decide +kernel
theorem d1_78 : decode prog_75_method_21_code 78 = .ok (.lushr, 1) := by decide +kernel
theorem d1_79 : decode prog_75_method_21_code 79 = .ok (.lxor, 1) := by decide +kernel
theorem d1_80 : decode prog_75_method_21_code 80 = .ok (.lstore_n 1, 1) := by decide +kernel
theorem d1_81 : decode prog_75_method_21_code 81 = .ok (.lload_n 1, 1) := by decide +kernel
theorem d1_82 : decode prog_75_method_21_code 82 = .ok (.lreturn, 1) := by decide +kernel
theorem pn_1 : plainName "com/example/sextant/sextant/store/Dictionary" = true := by first | (simp [plainName, overriddenIn]; done) | decide +kernel
theorem ef_1_0 (m : MethodId) (a : Addr) : entryFrame m #[(.ref a)] 7 = mkF m 0 #[.val (.ref a), .unset, .unset, .unset, .unset, .unset, .unset] [] := by first | (simp [entryFrame, mkF, argsToLocals, Value.category]; done) | rfl
def Q1_0 (Z : State) (a : Addr) (kk : ClassId) (h0 : Heap) (n0 : Nat) (v : Option Value) (h : Heap) (L : List Loc) : Prop := Fr n0 L ∧ h = h0 ∧ v = some (.long (hmix (-3750763034362895579 : Int64)))
set_option maxRecDepth 65536 in
set_option maxHeartbeats 40000000 in
theorem rm1_0 (l : Launch) (Z : State) (a0 : Array Value) (hw : ∀ d ∈ tables_1, d.before a0 Z = true) (ws : List Jvm.Cond) (a : Addr) (kk : ClassId) (h0 : Heap) (n0 : Nat) (Zs : n0 ≤ h0.size) (V_a : Arv Z h0 a kk .byte (0 : Int32) [] (.int (0 : Int32))) :
    MetFree l (⟨"com/example/sextant/sextant/store/Dictionary", "hash", "([B)J"⟩ : MethodName) (head1 (Jvm.Cond.code (⟨"com/example/sextant/sextant/store/Dictionary", "hash", "([B)J"⟩ : MethodName) prog_75_method_21_code 7 (some .long) :: ws) ({ frames := 0, cells := 0, slots := 0, locals := 0 } : Room)) (fun as' U => as' = #[(.ref a)] ∧ Z.Warmed39 U.vm ∧ U.heap = h0) (fun _ _ _ _ _ => True) (fun _ U o U' => ∃ v L, o = .returned v ∧ Q1_0 Z a kk h0 n0 v U'.heap L ∧ FrameEnd U o U' L ({ frames := 0, cells := 0, slots := 0, locals := 0 } : Room).cells ({ frames := 0, cells := 0, slots := 0, locals := 0 } : Room).slots) := by
  refine MetFree.of_bodySF (plainFor_of_name pn_1) hisR ?_
  intro p e s m args below meth c s₁ Bd hml0 hP hK
  obtain ⟨rfl, hZ, hh⟩ := hP
  have hx := Bd.exec
  have hby := Bd.bytes
  have hml : c.maxLocals = 7 := hml0
  have hown : s.vm.findClass "com/example/sextant/sextant/store/Dictionary" = some m.cls := findClass_of_methodNamed Bd.named
  have hnm := (name_of_methodNamed Bd.named Bd.method).1
  have hlk : meth.locks = false := Bd.notSynchronized
  have X0 : Stand p l e ({ frames := 0, cells := 0, slots := 0, locals := 0 } : Room) s m #[(.ref a)] below meth c s₁ [] 0 0 := Stand.of_body Bd
  have e0 : s₁.heap = h0 := by rw [← hh, Bd.state]; rfl
  have Nf := Fr.nil n0
  refine (?_ : Win p.tables e below (PostQ s (Q1_0 Z a kk h0 n0) ({ frames := 0, cells := 0, slots := 0, locals := 0 } : Room).cells ({ frames := 0, cells := 0, slots := 0, locals := 0 } : Room).slots) (s₁.setTop (entryFrame m #[(.ref a)] 7)))
  rw [ef_1_0]
  have lt_a : a < h0.size := V_a.lt
  show Win p.tables e below _ (s₁.setTop (mkF m 0 #[.val (.ref a), .unset, .unset, .unset, .unset, .unset, .unset] []))
  refine Win.go (fun _ k => X0.ldc2Long hx hown (mvT hZ (hw _ (List.mem_of_getElem? (i := 6) rfl))) (g := (mkF m 0 #[.val (.ref a), .unset, .unset, .unset, .unset, .unset, .unset] [])) rfl (hb hby d1_0) _ k) ?_
  show Win p.tables e below _ (s₁.setTop (mkF m 3 #[.val (.ref a), .unset, .unset, .unset, .unset, .unset, .unset] [(.long (-3750763034362895579 : Int64))]))
  refine s_lstoreN (pc' := 4) (l' := #[.val (.ref a), .val (.long (-3750763034362895579 : Int64)), .second, .unset, .unset, .unset, .unset]) X0.here hx (hb hby d1_3) rfl rfl ?_
  refine s_aloadN (pc' := 5) X0.here hx (hb hby d1_4) rfl rfl rfl ?_
  refine s_astoreN (pc' := 6) (l' := #[.val (.ref a), .val (.long (-3750763034362895579 : Int64)), .second, .val (.ref a), .unset, .unset, .unset]) X0.here hx (hb hby d1_5) rfl rfl rfl ?_
  refine s_aloadN (pc' := 7) X0.here hx (hb hby d1_6) rfl rfl rfl ?_
  obtain ⟨cl_1, Ar_1, q_1, S_1, N_1, H_1, G_1⟩ := id V_a
  refine Win.go (fun _ k => X0.arraylength hx (by rw [e0]; exact Ar_1.1) (State.isArrayOf_alike hZ.alike Ar_1.2.1) (g := (mkF m 7 #[.val (.ref a), .val (.long (-3750763034362895579 : Int64)), .second, .val (.ref a), .unset, .unset, .unset] [(.ref a)])) rfl rfl (hb hby d1_7) _ k) ?_
  rw [len_of S_1 N_1]
  clear Ar_1 q_1 S_1 N_1 H_1 G_1
  show Win p.tables e below _ (s₁.setTop (mkF m 8 #[.val (.ref a), .val (.long (-3750763034362895579 : Int64)), .second, .val (.ref a), .unset, .unset, .unset] [(.int (0 : Int32))]))
  refine s_istore (pc' := 10) (l' := #[.val (.ref a), .val (.long (-3750763034362895579 : Int64)), .second, .val (.ref a), .val (.int (0 : Int32)), .unset, .unset]) X0.here hx (hb hby d1_8) rfl rfl ?_
  refine s_iconst (pc' := 11) (z := (0 : Int32)) X0.here hx (hb hby d1_10) rfl rfl ?_
  refine s_istore (pc' := 13) (l' := #[.val (.ref a), .val (.long (-3750763034362895579 : Int64)), .second, .val (.ref a), .val (.int (0 : Int32)), .val (.int (0 : Int32)), .unset]) X0.here hx (hb hby d1_11) rfl rfl ?_
  refine s_iload (pc' := 15) X0.here hx (hb hby d1_13) rfl rfl ?_
  refine s_iload (pc' := 17) X0.here hx (hb hby d1_15) rfl rfl ?_
  refine s_icmpYes (pc' := 48) X0.here hx (hb hby d1_17) (fltI (x := (0 : Int32)) (y := (0 : Int32)) (by decide)).2.1 (by decide) (by decide) ?_
  refine s_lloadN (pc' := 49) X0.here hx (hb hby d1_48) rfl rfl ?_
  refine s_lloadN (pc' := 50) X0.here hx (hb hby d1_49) rfl rfl ?_
  refine s_bipush (pc' := 52) (z := (33 : Int32)) X0.here hx (hb hby d1_50) rfl rfl ?_
  refine Win.go (fun _ k => XT.lushr X0.here hx rfl (hb hby d1_52) rfl k) ?_
  show Win p.tables e below _ (s₁.setTop (mkF m 53 #[.val (.ref a), .val (.long (-3750763034362895579 : Int64)), .second, .val (.ref a), .val (.int (0 : Int32)), .val (.int (0 : Int32)), .unset] [(.long (1710837362 : Int64)), (.long (-3750763034362895579 : Int64))]))
  refine Win.go (fun _ k => XS.lxor X0.here hx rfl (hb hby d1_53) rfl k) ?_
  show Win p.tables e below _ (s₁.setTop (mkF m 54 #[.val (.ref a), .val (.long (-3750763034362895579 : Int64)), .second, .val (.ref a), .val (.int (0 : Int32)), .val (.int (0 : Int32)), .unset] [(.long (-3750763032790471337 : Int64))]))
  refine s_lstoreN (pc' := 55) (l' := #[.val (.ref a), .val (.long (-3750763032790471337 : Int64)), .second, .val (.ref a), .val (.int (0 : Int32)), .val (.int (0 : Int32)), .unset]) X0.here hx (hb hby d1_54) rfl rfl ?_
  refine s_lloadN (pc' := 56) X0.here hx (hb hby d1_55) rfl rfl ?_
  refine Win.go (fun _ k => X0.ldc2Long hx hown (mvT hZ (hw _ (List.mem_of_getElem? (i := 7) rfl))) (g := (mkF m 56 #[.val (.ref a), .val (.long (-3750763032790471337 : Int64)), .second, .val (.ref a), .val (.int (0 : Int32)), .val (.int (0 : Int32)), .unset] [(.long (-3750763032790471337 : Int64))])) rfl (hb hby d1_56) _ k) ?_
  show Win p.tables e below _ (s₁.setTop (mkF m 59 #[.val (.ref a), .val (.long (-3750763032790471337 : Int64)), .second, .val (.ref a), .val (.int (0 : Int32)), .val (.int (0 : Int32)), .unset] [(.long (-49064778989728563 : Int64)), (.long (-3750763032790471337 : Int64))]))
  refine Win.go (fun _ k => XS.lmul X0.here hx rfl (hb hby d1_59) rfl k) ?_
  show Win p.tables e below _ (s₁.setTop (mkF m 60 #[.val (.ref a), .val (.long (-3750763032790471337 : Int64)), .second, .val (.ref a), .val (.int (0 : Int32)), .val (.int (0 : Int32)), .unset] [(.long (-1388729422455692629 : Int64))]))
  refine s_lstoreN (pc' := 61) (l' := #[.val (.ref a), .val (.long (-1388729422455692629 : Int64)), .second, .val (.ref a), .val (.int (0 : Int32)), .val (.int (0 : Int32)), .unset]) X0.here hx (hb hby d1_60) rfl rfl ?_
  refine s_lloadN (pc' := 62) X0.here hx (hb hby d1_61) rfl rfl ?_
  refine s_lloadN (pc' := 63) X0.here hx (hb hby d1_62) rfl rfl ?_
  refine s_bipush (pc' := 65) (z := (33 : Int32)) X0.here hx (hb hby d1_63) rfl rfl ?_
  refine Win.go (fun _ k => XT.lushr X0.here hx rfl (hb hby d1_65) rfl k) ?_
  show Win p.tables e below _ (s₁.setTop (mkF m 66 #[.val (.ref a), .val (.long (-1388729422455692629 : Int64)), .second, .val (.ref a), .val (.int (0 : Int32)), .val (.int (0 : Int32)), .unset] [(.long (1985814265 : Int64)), (.long (-1388729422455692629 : Int64))]))
  refine Win.go (fun _ k => XS.lxor X0.here hx rfl (hb hby d1_66) rfl k) ?_
  show Win p.tables e below _ (s₁.setTop (mkF m 67 #[.val (.ref a), .val (.long (-1388729422455692629 : Int64)), .second, .val (.ref a), .val (.int (0 : Int32)), .val (.int (0 : Int32)), .unset] [(.long (-1388729422223754158 : Int64))]))
  refine s_lstoreN (pc' := 68) (l' := #[.val (.ref a), .val (.long (-1388729422223754158 : Int64)), .second, .val (.ref a), .val (.int (0 : Int32)), .val (.int (0 : Int32)), .unset]) X0.here hx (hb hby d1_67) rfl rfl ?_
  refine s_lloadN (pc' := 69) X0.here hx (hb hby d1_68) rfl rfl ?_
  refine Win.go (fun _ k => X0.ldc2Long hx hown (mvT hZ (hw _ (List.mem_of_getElem? (i := 8) rfl))) (g := (mkF m 69 #[.val (.ref a), .val (.long (-1388729422223754158 : Int64)), .second, .val (.ref a), .val (.int (0 : Int32)), .val (.int (0 : Int32)), .unset] [(.long (-1388729422223754158 : Int64))])) rfl (hb hby d1_69) _ k) ?_
  show Win p.tables e below _ (s₁.setTop (mkF m 72 #[.val (.ref a), .val (.long (-1388729422223754158 : Int64)), .second, .val (.ref a), .val (.int (0 : Int32)), .val (.int (0 : Int32)), .unset] [(.long (-4265267296055464877 : Int64)), (.long (-1388729422223754158 : Int64))]))
  refine Win.go (fun _ k => XS.lmul X0.here hx rfl (hb hby d1_72) rfl k) ?_
  show Win p.tables e below _ (s₁.setTop (mkF m 73 #[.val (.ref a), .val (.long (-1388729422223754158 : Int64)), .second, .val (.ref a), .val (.int (0 : Int32)), .val (.int (0 : Int32)), .unset] [(.long (-1166397802864892266 : Int64))]))
  refine s_lstoreN (pc' := 74) (l' := #[.val (.ref a), .val (.long (-1166397802864892266 : Int64)), .second, .val (.ref a), .val (.int (0 : Int32)), .val (.int (0 : Int32)), .unset]) X0.here hx (hb hby d1_73) rfl rfl ?_
  refine s_lloadN (pc' := 75) X0.here hx (hb hby d1_74) rfl rfl ?_
  refine s_lloadN (pc' := 76) X0.here hx (hb hby d1_75) rfl rfl ?_
  refine s_bipush (pc' := 78) (z := (33 : Int32)) X0.here hx (hb hby d1_76) rfl rfl ?_
  refine Win.go (fun _ k => XT.lushr X0.here hx rfl (hb hby d1_78) rfl k) ?_
  show Win p.tables e below _ (s₁.setTop (mkF m 79 #[.val (.ref a), .val (.long (-1166397802864892266 : Int64)), .second, .val (.ref a), .val (.int (0 : Int32)), .val (.int (0 : Int32)), .unset] [(.long (2011697072 : Int64)), (.long (-1166397802864892266 : Int64))]))
  refine Win.go (fun _ k => XS.lxor X0.here hx rfl (hb hby d1_79) rfl k) ?_
  show Win p.tables e below _ (s₁.setTop (mkF m 80 #[.val (.ref a), .val (.long (-1166397802864892266 : Int64)), .second, .val (.ref a), .val (.int (0 : Int32)), .val (.int (0 : Int32)), .unset] [(.long (-1166397803181037274 : Int64))]))
  refine s_lstoreN (pc' := 81) (l' := #[.val (.ref a), .val (.long (-1166397803181037274 : Int64)), .second, .val (.ref a), .val (.int (0 : Int32)), .val (.int (0 : Int32)), .unset]) X0.here hx (hb hby d1_80) rfl rfl ?_
  refine s_lloadN (pc' := 82) X0.here hx (hb hby d1_81) rfl rfl ?_
  refine winL X0 hx hlk e0 Bd.returns (hb hby d1_82) (by decide) (by decide) ?_
  exact ⟨Nf, rfl, congrArg (fun x => some (Value.long x)) (by decide)⟩
theorem d1_20 : decode prog_75_method_21_code 20 = .ok (.aload_n 3, 1) := by decide +kernel
theorem d1_21 : decode prog_75_method_21_code 21 = .ok (.iload 5, 2) := by decide +kernel
theorem d1_23 : decode prog_75_method_21_code 23 = .ok (.baload, 1) := by decide +kernel
theorem d1_24 : decode prog_75_method_21_code 24 = .ok (.istore 6, 2) := by decide +kernel
theorem d1_26 : decode prog_75_method_21_code 26 = .ok (.lload_n 1, 1) := by decide +kernel
theorem d1_27 : decode prog_75_method_21_code 27 = .ok (.iload 6, 2) := by decide +kernel
theorem d1_29 : decode prog_75_method_21_code 29 = .ok (.sipush 255, 3) := by decide +kernel
theorem d1_32 : decode prog_75_method_21_code 32 = .ok (.iand, 1) := by decide +kernel
theorem d1_33 : decode prog_75_method_21_code 33 = .ok (.i2l, 1) := by decide +kernel
theorem d1_34 : decode prog_75_method_21_code 34 = .ok (.lxor, 1) := by decide +kernel
theorem d1_35 : decode prog_75_method_21_code 35 = .ok (.lstore_n 1, 1) := by decide +kernel
theorem d1_36 : decode prog_75_method_21_code 36 = .ok (.lload_n 1, 1) := by decide +kernel
theorem d1_37 : decode prog_75_method_21_code 37 = .ok (.ldc2_w 382, 3) := by decide +kernel
theorem d1_40 : decode prog_75_method_21_code 40 = .ok (.lmul, 1) := by decide +kernel
theorem d1_41 : decode prog_75_method_21_code 41 = .ok (.lstore_n 1, 1) := by decide +kernel
theorem d1_42 : decode prog_75_method_21_code 42 = .ok (.iinc 5 1, 3) := by decide +kernel
theorem d1_45 : decode prog_75_method_21_code 45 = .ok (.goto (-32), 3) := by decide +kernel
theorem ef_1_1 (m : MethodId) (a : Addr) : entryFrame m #[(.ref a)] 7 = mkF m 0 #[.val (.ref a), .unset, .unset, .unset, .unset, .unset, .unset] [] := by first | (simp [entryFrame, mkF, argsToLocals, Value.category]; done) | rfl
def Q1_1 (Z : State) (a : Addr) (kk : ClassId) (v0 : Int32) (h0 : Heap) (n0 : Nat) (v : Option Value) (h : Heap) (L : List Loc) : Prop := Fr n0 L ∧ h = h0 ∧ v = some (.long (hmix (hstep (-3750763034362895579 : Int64) v0)))
set_option maxRecDepth 65536 in
set_option maxHeartbeats 40000000 in
theorem rm1_1 (l : Launch) (Z : State) (a0 : Array Value) (hw : ∀ d ∈ tables_1, d.before a0 Z = true) (ws : List Jvm.Cond) (a : Addr) (kk : ClassId) (v0 : Int32) (h0 : Heap) (n0 : Nat) (Zs : n0 ≤ h0.size) (V_a : Arv Z h0 a kk .byte (1 : Int32) [(.int v0)] (.int (0 : Int32))) :
    MetFree l (⟨"com/example/sextant/sextant/store/Dictionary", "hash", "([B)J"⟩ : MethodName) (head1 (Jvm.Cond.code (⟨"com/example/sextant/sextant/store/Dictionary", "hash", "([B)J"⟩ : MethodName) prog_75_method_21_code 7 (some .long) :: ws) ({ frames := 0, cells := 0, slots := 0, locals := 0 } : Room)) (fun as' U => as' = #[(.ref a)] ∧ Z.Warmed39 U.vm ∧ U.heap = h0) (fun _ _ _ _ _ => True) (fun _ U o U' => ∃ v L, o = .returned v ∧ Q1_1 Z a kk v0 h0 n0 v U'.heap L ∧ FrameEnd U o U' L ({ frames := 0, cells := 0, slots := 0, locals := 0 } : Room).cells ({ frames := 0, cells := 0, slots := 0, locals := 0 } : Room).slots) := by
  refine MetFree.of_bodySF (plainFor_of_name pn_1) hisR ?_
  intro p e s m args below meth c s₁ Bd hml0 hP hK
  obtain ⟨rfl, hZ, hh⟩ := hP
  have hx := Bd.exec
  have hby := Bd.bytes
  have hml : c.maxLocals = 7 := hml0
  have hown : s.vm.findClass "com/example/sextant/sextant/store/Dictionary" = some m.cls := findClass_of_methodNamed Bd.named
  have hnm := (name_of_methodNamed Bd.named Bd.method).1
  have hlk : meth.locks = false := Bd.notSynchronized
  have X0 : Stand p l e ({ frames := 0, cells := 0, slots := 0, locals := 0 } : Room) s m #[(.ref a)] below meth c s₁ [] 0 0 := Stand.of_body Bd
  have e0 : s₁.heap = h0 := by rw [← hh, Bd.state]; rfl
  have Nf := Fr.nil n0
  refine (?_ : Win p.tables e below (PostQ s (Q1_1 Z a kk v0 h0 n0) ({ frames := 0, cells := 0, slots := 0, locals := 0 } : Room).cells ({ frames := 0, cells := 0, slots := 0, locals := 0 } : Room).slots) (s₁.setTop (entryFrame m #[(.ref a)] 7)))
  rw [ef_1_1]
  have lt_a : a < h0.size := V_a.lt
  show Win p.tables e below _ (s₁.setTop (mkF m 0 #[.val (.ref a), .unset, .unset, .unset, .unset, .unset, .unset] []))
  refine Win.go (fun _ k => X0.ldc2Long hx hown (mvT hZ (hw _ (List.mem_of_getElem? (i := 6) rfl))) (g := (mkF m 0 #[.val (.ref a), .unset, .unset, .unset, .unset, .unset, .unset] [])) rfl (hb hby d1_0) _ k) ?_
  show Win p.tables e below _ (s₁.setTop (mkF m 3 #[.val (.ref a), .unset, .unset, .unset, .unset, .unset, .unset] [(.long (-3750763034362895579 : Int64))]))
  refine s_lstoreN (pc' := 4) (l' := #[.val (.ref a), .val (.long (-3750763034362895579 : Int64)), .second, .unset, .unset, .unset, .unset]) X0.here hx (hb hby d1_3) rfl rfl ?_
  refine s_aloadN (pc' := 5) X0.here hx (hb hby d1_4) rfl rfl rfl ?_
  refine s_astoreN (pc' := 6) (l' := #[.val (.ref a), .val (.long (-3750763034362895579 : Int64)), .second, .val (.ref a), .unset, .unset, .unset]) X0.here hx (hb hby d1_5) rfl rfl rfl ?_
  refine s_aloadN (pc' := 7) X0.here hx (hb hby d1_6) rfl rfl rfl ?_
  obtain ⟨cl_2, Ar_2, q_2, S_2, N_2, H_2, G_2⟩ := id V_a
  refine Win.go (fun _ k => X0.arraylength hx (by rw [e0]; exact Ar_2.1) (State.isArrayOf_alike hZ.alike Ar_2.2.1) (g := (mkF m 7 #[.val (.ref a), .val (.long (-3750763034362895579 : Int64)), .second, .val (.ref a), .unset, .unset, .unset] [(.ref a)])) rfl rfl (hb hby d1_7) _ k) ?_
  rw [len_of S_2 N_2]
  clear Ar_2 q_2 S_2 N_2 H_2 G_2
  show Win p.tables e below _ (s₁.setTop (mkF m 8 #[.val (.ref a), .val (.long (-3750763034362895579 : Int64)), .second, .val (.ref a), .unset, .unset, .unset] [(.int (1 : Int32))]))
  refine s_istore (pc' := 10) (l' := #[.val (.ref a), .val (.long (-3750763034362895579 : Int64)), .second, .val (.ref a), .val (.int (1 : Int32)), .unset, .unset]) X0.here hx (hb hby d1_8) rfl rfl ?_
  refine s_iconst (pc' := 11) (z := (0 : Int32)) X0.here hx (hb hby d1_10) rfl rfl ?_
  refine s_istore (pc' := 13) (l' := #[.val (.ref a), .val (.long (-3750763034362895579 : Int64)), .second, .val (.ref a), .val (.int (1 : Int32)), .val (.int (0 : Int32)), .unset]) X0.here hx (hb hby d1_11) rfl rfl ?_
  refine s_iload (pc' := 15) X0.here hx (hb hby d1_13) rfl rfl ?_
  refine s_iload (pc' := 17) X0.here hx (hb hby d1_15) rfl rfl ?_
  refine s_icmpNo (pc' := 20) X0.here hx (hb hby d1_17) rfl (tltI (x := (0 : Int32)) (y := (1 : Int32)) (by decide)).2.1 ?_
  refine s_aloadN (pc' := 21) X0.here hx (hb hby d1_20) rfl rfl rfl ?_
  refine s_iload (pc' := 23) X0.here hx (hb hby d1_21) rfl rfl ?_
  obtain ⟨cl_3, Ar_3, q_3, S_3, N_3, H_3, G_3⟩ := id V_a
  have hi_3 : ¬ ((0 : Int32) < 0 ∨ cl_3.slots.size ≤ ((0 : Int32)).toNatClampNeg) := inb_of S_3 ⟨by decide, by decide⟩
  refine Win.go (fun _ k => X0.baloadBytes hx (j := (0 : Int32)) (v := (.int v0)) (by rw [e0]; exact Ar_3.1) (State.isArrayOf_alike hZ.alike Ar_3.2.1) Ar_3.2.2 hi_3 (H_3.at hi_3 rfl) (g := (mkF m 23 #[.val (.ref a), .val (.long (-3750763034362895579 : Int64)), .second, .val (.ref a), .val (.int (1 : Int32)), .val (.int (0 : Int32)), .unset] [(.int (0 : Int32)), (.ref a)])) rfl rfl (hb hby d1_23) _ k) ?_
  show Win p.tables e below _ (s₁.setTop (mkF m 24 #[.val (.ref a), .val (.long (-3750763034362895579 : Int64)), .second, .val (.ref a), .val (.int (1 : Int32)), .val (.int (0 : Int32)), .unset] [(.int v0)]))
  clear Ar_3 q_3 S_3 N_3 H_3 G_3 hi_3
  refine s_istore (pc' := 26) (l' := #[.val (.ref a), .val (.long (-3750763034362895579 : Int64)), .second, .val (.ref a), .val (.int (1 : Int32)), .val (.int (0 : Int32)), .val (.int v0)]) X0.here hx (hb hby d1_24) rfl rfl ?_
  refine s_lloadN (pc' := 27) X0.here hx (hb hby d1_26) rfl rfl ?_
  refine s_iload (pc' := 29) X0.here hx (hb hby d1_27) rfl rfl ?_
  refine s_sipush (pc' := 32) (z := (255 : Int32)) X0.here hx (hb hby d1_29) rfl rfl ?_
  refine s_iand (pc' := 33) X0.here hx (hb hby d1_32) rfl ?_
  refine Win.go (fun _ k => XS.i2l X0.here hx rfl (hb hby d1_33) rfl k) ?_
  show Win p.tables e below _ (s₁.setTop (mkF m 34 #[.val (.ref a), .val (.long (-3750763034362895579 : Int64)), .second, .val (.ref a), .val (.int (1 : Int32)), .val (.int (0 : Int32)), .val (.int v0)] [(.long ((v0 &&& (255 : Int32)).toInt64)), (.long (-3750763034362895579 : Int64))]))
  refine s_lxor (pc' := 35) X0.here hx (hb hby d1_34) rfl ?_
  refine s_lstoreN (pc' := 36) (l' := #[.val (.ref a), .val (.long ((-3750763034362895579 : Int64) ^^^ ((v0 &&& (255 : Int32)).toInt64))), .second, .val (.ref a), .val (.int (1 : Int32)), .val (.int (0 : Int32)), .val (.int v0)]) X0.here hx (hb hby d1_35) rfl rfl ?_
  refine s_lloadN (pc' := 37) X0.here hx (hb hby d1_36) rfl rfl ?_
  refine Win.go (fun _ k => X0.ldc2Long hx hown (mvT hZ (hw _ (List.mem_of_getElem? (i := 18) rfl))) (g := (mkF m 37 #[.val (.ref a), .val (.long ((-3750763034362895579 : Int64) ^^^ ((v0 &&& (255 : Int32)).toInt64))), .second, .val (.ref a), .val (.int (1 : Int32)), .val (.int (0 : Int32)), .val (.int v0)] [(.long ((-3750763034362895579 : Int64) ^^^ ((v0 &&& (255 : Int32)).toInt64)))])) rfl (hb hby d1_37) _ k) ?_
  show Win p.tables e below _ (s₁.setTop (mkF m 40 #[.val (.ref a), .val (.long ((-3750763034362895579 : Int64) ^^^ ((v0 &&& (255 : Int32)).toInt64))), .second, .val (.ref a), .val (.int (1 : Int32)), .val (.int (0 : Int32)), .val (.int v0)] [(.long (1099511628211 : Int64)), (.long ((-3750763034362895579 : Int64) ^^^ ((v0 &&& (255 : Int32)).toInt64)))]))
  refine s_lmul (pc' := 41) X0.here hx (hb hby d1_40) rfl ?_
  refine s_lstoreN (pc' := 42) (l' := #[.val (.ref a), .val (.long (((-3750763034362895579 : Int64) ^^^ ((v0 &&& (255 : Int32)).toInt64)) * (1099511628211 : Int64))), .second, .val (.ref a), .val (.int (1 : Int32)), .val (.int (0 : Int32)), .val (.int v0)]) X0.here hx (hb hby d1_41) rfl rfl ?_
  generalize hs0 : (((-3750763034362895579 : Int64) ^^^ ((v0 &&& (255 : Int32)).toInt64)) * (1099511628211 : Int64)) = s0
  show Win p.tables e below _ (s₁.setTop (mkF m 42 #[.val (.ref a), .val (.long s0), .second, .val (.ref a), .val (.int (1 : Int32)), .val (.int (0 : Int32)), .val (.int v0)] []))
  refine Win.go (fun _ k => XS.iinc X0.here hx rfl (hb hby d1_42) rfl (l' := #[.val (.ref a), .val (.long s0), .second, .val (.ref a), .val (.int (1 : Int32)), .val (.int (1 : Int32)), .val (.int v0)]) rfl k) ?_
  show Win p.tables e below _ (s₁.setTop (mkF m 45 #[.val (.ref a), .val (.long s0), .second, .val (.ref a), .val (.int (1 : Int32)), .val (.int (1 : Int32)), .val (.int v0)] []))
  refine s_goto (pc' := 13) X0.here hx (hb hby d1_45) (by decide) (by decide) ?_
  refine s_iload (pc' := 15) X0.here hx (hb hby d1_13) rfl rfl ?_
  refine s_iload (pc' := 17) X0.here hx (hb hby d1_15) rfl rfl ?_
  refine s_icmpYes (pc' := 48) X0.here hx (hb hby d1_17) (fltI (x := (1 : Int32)) (y := (1 : Int32)) (by decide)).2.1 (by decide) (by decide) ?_
  refine s_lloadN (pc' := 49) X0.here hx (hb hby d1_48) rfl rfl ?_
  refine s_lloadN (pc' := 50) X0.here hx (hb hby d1_49) rfl rfl ?_
  refine s_bipush (pc' := 52) (z := (33 : Int32)) X0.here hx (hb hby d1_50) rfl rfl ?_
  refine Win.go (fun _ k => XT.lushr X0.here hx rfl (hb hby d1_52) rfl k) ?_
  show Win p.tables e below _ (s₁.setTop (mkF m 53 #[.val (.ref a), .val (.long s0), .second, .val (.ref a), .val (.int (1 : Int32)), .val (.int (1 : Int32)), .val (.int v0)] [(.long (XT.ushrL s0 (33 : Int32))), (.long s0)]))
  refine s_lxor (pc' := 54) X0.here hx (hb hby d1_53) rfl ?_
  refine s_lstoreN (pc' := 55) (l' := #[.val (.ref a), .val (.long (s0 ^^^ (XT.ushrL s0 (33 : Int32)))), .second, .val (.ref a), .val (.int (1 : Int32)), .val (.int (1 : Int32)), .val (.int v0)]) X0.here hx (hb hby d1_54) rfl rfl ?_
  refine s_lloadN (pc' := 56) X0.here hx (hb hby d1_55) rfl rfl ?_
  refine Win.go (fun _ k => X0.ldc2Long hx hown (mvT hZ (hw _ (List.mem_of_getElem? (i := 7) rfl))) (g := (mkF m 56 #[.val (.ref a), .val (.long (s0 ^^^ (XT.ushrL s0 (33 : Int32)))), .second, .val (.ref a), .val (.int (1 : Int32)), .val (.int (1 : Int32)), .val (.int v0)] [(.long (s0 ^^^ (XT.ushrL s0 (33 : Int32))))])) rfl (hb hby d1_56) _ k) ?_
  show Win p.tables e below _ (s₁.setTop (mkF m 59 #[.val (.ref a), .val (.long (s0 ^^^ (XT.ushrL s0 (33 : Int32)))), .second, .val (.ref a), .val (.int (1 : Int32)), .val (.int (1 : Int32)), .val (.int v0)] [(.long (-49064778989728563 : Int64)), (.long (s0 ^^^ (XT.ushrL s0 (33 : Int32))))]))
  refine s_lmul (pc' := 60) X0.here hx (hb hby d1_59) rfl ?_
  refine s_lstoreN (pc' := 61) (l' := #[.val (.ref a), .val (.long ((s0 ^^^ (XT.ushrL s0 (33 : Int32))) * (-49064778989728563 : Int64))), .second, .val (.ref a), .val (.int (1 : Int32)), .val (.int (1 : Int32)), .val (.int v0)]) X0.here hx (hb hby d1_60) rfl rfl ?_
  generalize ht1 : ((s0 ^^^ (XT.ushrL s0 (33 : Int32))) * (-49064778989728563 : Int64)) = t1
  show Win p.tables e below _ (s₁.setTop (mkF m 61 #[.val (.ref a), .val (.long t1), .second, .val (.ref a), .val (.int (1 : Int32)), .val (.int (1 : Int32)), .val (.int v0)] []))
  refine s_lloadN (pc' := 62) X0.here hx (hb hby d1_61) rfl rfl ?_
  refine s_lloadN (pc' := 63) X0.here hx (hb hby d1_62) rfl rfl ?_
  refine s_bipush (pc' := 65) (z := (33 : Int32)) X0.here hx (hb hby d1_63) rfl rfl ?_
  refine Win.go (fun _ k => XT.lushr X0.here hx rfl (hb hby d1_65) rfl k) ?_
  show Win p.tables e below _ (s₁.setTop (mkF m 66 #[.val (.ref a), .val (.long t1), .second, .val (.ref a), .val (.int (1 : Int32)), .val (.int (1 : Int32)), .val (.int v0)] [(.long (XT.ushrL t1 (33 : Int32))), (.long t1)]))
  refine s_lxor (pc' := 67) X0.here hx (hb hby d1_66) rfl ?_
  refine s_lstoreN (pc' := 68) (l' := #[.val (.ref a), .val (.long (t1 ^^^ (XT.ushrL t1 (33 : Int32)))), .second, .val (.ref a), .val (.int (1 : Int32)), .val (.int (1 : Int32)), .val (.int v0)]) X0.here hx (hb hby d1_67) rfl rfl ?_
  refine s_lloadN (pc' := 69) X0.here hx (hb hby d1_68) rfl rfl ?_
  refine Win.go (fun _ k => X0.ldc2Long hx hown (mvT hZ (hw _ (List.mem_of_getElem? (i := 8) rfl))) (g := (mkF m 69 #[.val (.ref a), .val (.long (t1 ^^^ (XT.ushrL t1 (33 : Int32)))), .second, .val (.ref a), .val (.int (1 : Int32)), .val (.int (1 : Int32)), .val (.int v0)] [(.long (t1 ^^^ (XT.ushrL t1 (33 : Int32))))])) rfl (hb hby d1_69) _ k) ?_
  show Win p.tables e below _ (s₁.setTop (mkF m 72 #[.val (.ref a), .val (.long (t1 ^^^ (XT.ushrL t1 (33 : Int32)))), .second, .val (.ref a), .val (.int (1 : Int32)), .val (.int (1 : Int32)), .val (.int v0)] [(.long (-4265267296055464877 : Int64)), (.long (t1 ^^^ (XT.ushrL t1 (33 : Int32))))]))
  refine s_lmul (pc' := 73) X0.here hx (hb hby d1_72) rfl ?_
  refine s_lstoreN (pc' := 74) (l' := #[.val (.ref a), .val (.long ((t1 ^^^ (XT.ushrL t1 (33 : Int32))) * (-4265267296055464877 : Int64))), .second, .val (.ref a), .val (.int (1 : Int32)), .val (.int (1 : Int32)), .val (.int v0)]) X0.here hx (hb hby d1_73) rfl rfl ?_
  generalize ht2 : ((t1 ^^^ (XT.ushrL t1 (33 : Int32))) * (-4265267296055464877 : Int64)) = t2
  show Win p.tables e below _ (s₁.setTop (mkF m 74 #[.val (.ref a), .val (.long t2), .second, .val (.ref a), .val (.int (1 : Int32)), .val (.int (1 : Int32)), .val (.int v0)] []))
  refine s_lloadN (pc' := 75) X0.here hx (hb hby d1_74) rfl rfl ?_
  refine s_lloadN (pc' := 76) X0.here hx (hb hby d1_75) rfl rfl ?_
  refine s_bipush (pc' := 78) (z := (33 : Int32)) X0.here hx (hb hby d1_76) rfl rfl ?_
  refine Win.go (fun _ k => XT.lushr X0.here hx rfl (hb hby d1_78) rfl k) ?_
  show Win p.tables e below _ (s₁.setTop (mkF m 79 #[.val (.ref a), .val (.long t2), .second, .val (.ref a), .val (.int (1 : Int32)), .val (.int (1 : Int32)), .val (.int v0)] [(.long (XT.ushrL t2 (33 : Int32))), (.long t2)]))
  refine s_lxor (pc' := 80) X0.here hx (hb hby d1_79) rfl ?_
  refine s_lstoreN (pc' := 81) (l' := #[.val (.ref a), .val (.long (t2 ^^^ (XT.ushrL t2 (33 : Int32)))), .second, .val (.ref a), .val (.int (1 : Int32)), .val (.int (1 : Int32)), .val (.int v0)]) X0.here hx (hb hby d1_80) rfl rfl ?_
  refine s_lloadN (pc' := 82) X0.here hx (hb hby d1_81) rfl rfl ?_
  refine winL X0 hx hlk e0 Bd.returns (hb hby d1_82) (by decide) (by decide) ?_
  exact ⟨Nf, rfl, by rw [← ht2, ← ht1, ← hs0]; rfl⟩
theorem ef_1_2 (m : MethodId) (a : Addr) : entryFrame m #[(.ref a)] 7 = mkF m 0 #[.val (.ref a), .unset, .unset, .unset, .unset, .unset, .unset] [] := by first | (simp [entryFrame, mkF, argsToLocals, Value.category]; done) | rfl
def Q1_2 (Z : State) (a : Addr) (kk : ClassId) (v0 : Int32) (v1 : Int32) (h0 : Heap) (n0 : Nat) (v : Option Value) (h : Heap) (L : List Loc) : Prop := Fr n0 L ∧ h = h0 ∧ v = some (.long (hmix (hstep (hstep (-3750763034362895579 : Int64) v0) v1)))
set_option maxRecDepth 65536 in
set_option maxHeartbeats 40000000 in
theorem rm1_2 (l : Launch) (Z : State) (a0 : Array Value) (hw : ∀ d ∈ tables_1, d.before a0 Z = true) (ws : List Jvm.Cond) (a : Addr) (kk : ClassId) (v0 : Int32) (v1 : Int32) (h0 : Heap) (n0 : Nat) (Zs : n0 ≤ h0.size) (V_a : Arv Z h0 a kk .byte (2 : Int32) [(.int v0), (.int v1)] (.int (0 : Int32))) :
    MetFree l (⟨"com/example/sextant/sextant/store/Dictionary", "hash", "([B)J"⟩ : MethodName) (head1 (Jvm.Cond.code (⟨"com/example/sextant/sextant/store/Dictionary", "hash", "([B)J"⟩ : MethodName) prog_75_method_21_code 7 (some .long) :: ws) ({ frames := 0, cells := 0, slots := 0, locals := 0 } : Room)) (fun as' U => as' = #[(.ref a)] ∧ Z.Warmed39 U.vm ∧ U.heap = h0) (fun _ _ _ _ _ => True) (fun _ U o U' => ∃ v L, o = .returned v ∧ Q1_2 Z a kk v0 v1 h0 n0 v U'.heap L ∧ FrameEnd U o U' L ({ frames := 0, cells := 0, slots := 0, locals := 0 } : Room).cells ({ frames := 0, cells := 0, slots := 0, locals := 0 } : Room).slots) := by
  refine MetFree.of_bodySF (plainFor_of_name pn_1) hisR ?_
  intro p e s m args below meth c s₁ Bd hml0 hP hK
  obtain ⟨rfl, hZ, hh⟩ := hP
  have hx := Bd.exec
  have hby := Bd.bytes
  have hml : c.maxLocals = 7 := hml0
  have hown : s.vm.findClass "com/example/sextant/sextant/store/Dictionary" = some m.cls := findClass_of_methodNamed Bd.named
  have hnm := (name_of_methodNamed Bd.named Bd.method).1
  have hlk : meth.locks = false := Bd.notSynchronized
  have X0 : Stand p l e ({ frames := 0, cells := 0, slots := 0, locals := 0 } : Room) s m #[(.ref a)] below meth c s₁ [] 0 0 := Stand.of_body Bd
  have e0 : s₁.heap = h0 := by rw [← hh, Bd.state]; rfl
  have Nf := Fr.nil n0
  refine (?_ : Win p.tables e below (PostQ s (Q1_2 Z a kk v0 v1 h0 n0) ({ frames := 0, cells := 0, slots := 0, locals := 0 } : Room).cells ({ frames := 0, cells := 0, slots := 0, locals := 0 } : Room).slots) (s₁.setTop (entryFrame m #[(.ref a)] 7)))
  rw [ef_1_2]
  have lt_a : a < h0.size := V_a.lt
  show Win p.tables e below _ (s₁.setTop (mkF m 0 #[.val (.ref a), .unset, .unset, .unset, .unset, .unset, .unset] []))
  refine Win.go (fun _ k => X0.ldc2Long hx hown (mvT hZ (hw _ (List.mem_of_getElem? (i := 6) rfl))) (g := (mkF m 0 #[.val (.ref a), .unset, .unset, .unset, .unset, .unset, .unset] [])) rfl (hb hby d1_0) _ k) ?_
  show Win p.tables e below _ (s₁.setTop (mkF m 3 #[.val (.ref a), .unset, .unset, .unset, .unset, .unset, .unset] [(.long (-3750763034362895579 : Int64))]))
  refine s_lstoreN (pc' := 4) (l' := #[.val (.ref a), .val (.long (-3750763034362895579 : Int64)), .second, .unset, .unset, .unset, .unset]) X0.here hx (hb hby d1_3) rfl rfl ?_
  refine s_aloadN (pc' := 5) X0.here hx (hb hby d1_4) rfl rfl rfl ?_
  refine s_astoreN (pc' := 6) (l' := #[.val (.ref a), .val (.long (-3750763034362895579 : Int64)), .second, .val (.ref a), .unset, .unset, .unset]) X0.here hx (hb hby d1_5) rfl rfl rfl ?_
  refine s_aloadN (pc' := 7) X0.here hx (hb hby d1_6) rfl rfl rfl ?_
  obtain ⟨cl_4, Ar_4, q_4, S_4, N_4, H_4, G_4⟩ := id V_a
  refine Win.go (fun _ k => X0.arraylength hx (by rw [e0]; exact Ar_4.1) (State.isArrayOf_alike hZ.alike Ar_4.2.1) (g := (mkF m 7 #[.val (.ref a), .val (.long (-3750763034362895579 : Int64)), .second, .val (.ref a), .unset, .unset, .unset] [(.ref a)])) rfl rfl (hb hby d1_7) _ k) ?_
  rw [len_of S_4 N_4]
  clear Ar_4 q_4 S_4 N_4 H_4 G_4
  show Win p.tables e below _ (s₁.setTop (mkF m 8 #[.val (.ref a), .val (.long (-3750763034362895579 : Int64)), .second, .val (.ref a), .unset, .unset, .unset] [(.int (2 : Int32))]))
  refine s_istore (pc' := 10) (l' := #[.val (.ref a), .val (.long (-3750763034362895579 : Int64)), .second, .val (.ref a), .val (.int (2 : Int32)), .unset, .unset]) X0.here hx (hb hby d1_8) rfl rfl ?_
  refine s_iconst (pc' := 11) (z := (0 : Int32)) X0.here hx (hb hby d1_10) rfl rfl ?_
  refine s_istore (pc' := 13) (l' := #[.val (.ref a), .val (.long (-3750763034362895579 : Int64)), .second, .val (.ref a), .val (.int (2 : Int32)), .val (.int (0 : Int32)), .unset]) X0.here hx (hb hby d1_11) rfl rfl ?_
  refine s_iload (pc' := 15) X0.here hx (hb hby d1_13) rfl rfl ?_
  refine s_iload (pc' := 17) X0.here hx (hb hby d1_15) rfl rfl ?_
  refine s_icmpNo (pc' := 20) X0.here hx (hb hby d1_17) rfl (tltI (x := (0 : Int32)) (y := (2 : Int32)) (by decide)).2.1 ?_
  refine s_aloadN (pc' := 21) X0.here hx (hb hby d1_20) rfl rfl rfl ?_
  refine s_iload (pc' := 23) X0.here hx (hb hby d1_21) rfl rfl ?_
  obtain ⟨cl_5, Ar_5, q_5, S_5, N_5, H_5, G_5⟩ := id V_a
  have hi_5 : ¬ ((0 : Int32) < 0 ∨ cl_5.slots.size ≤ ((0 : Int32)).toNatClampNeg) := inb_of S_5 ⟨by decide, by decide⟩
  refine Win.go (fun _ k => X0.baloadBytes hx (j := (0 : Int32)) (v := (.int v0)) (by rw [e0]; exact Ar_5.1) (State.isArrayOf_alike hZ.alike Ar_5.2.1) Ar_5.2.2 hi_5 (H_5.at hi_5 rfl) (g := (mkF m 23 #[.val (.ref a), .val (.long (-3750763034362895579 : Int64)), .second, .val (.ref a), .val (.int (2 : Int32)), .val (.int (0 : Int32)), .unset] [(.int (0 : Int32)), (.ref a)])) rfl rfl (hb hby d1_23) _ k) ?_
  show Win p.tables e below _ (s₁.setTop (mkF m 24 #[.val (.ref a), .val (.long (-3750763034362895579 : Int64)), .second, .val (.ref a), .val (.int (2 : Int32)), .val (.int (0 : Int32)), .unset] [(.int v0)]))
  clear Ar_5 q_5 S_5 N_5 H_5 G_5 hi_5
  refine s_istore (pc' := 26) (l' := #[.val (.ref a), .val (.long (-3750763034362895579 : Int64)), .second, .val (.ref a), .val (.int (2 : Int32)), .val (.int (0 : Int32)), .val (.int v0)]) X0.here hx (hb hby d1_24) rfl rfl ?_
  refine s_lloadN (pc' := 27) X0.here hx (hb hby d1_26) rfl rfl ?_
  refine s_iload (pc' := 29) X0.here hx (hb hby d1_27) rfl rfl ?_
  refine s_sipush (pc' := 32) (z := (255 : Int32)) X0.here hx (hb hby d1_29) rfl rfl ?_
  refine s_iand (pc' := 33) X0.here hx (hb hby d1_32) rfl ?_
  refine Win.go (fun _ k => XS.i2l X0.here hx rfl (hb hby d1_33) rfl k) ?_
  show Win p.tables e below _ (s₁.setTop (mkF m 34 #[.val (.ref a), .val (.long (-3750763034362895579 : Int64)), .second, .val (.ref a), .val (.int (2 : Int32)), .val (.int (0 : Int32)), .val (.int v0)] [(.long ((v0 &&& (255 : Int32)).toInt64)), (.long (-3750763034362895579 : Int64))]))
  refine s_lxor (pc' := 35) X0.here hx (hb hby d1_34) rfl ?_
  refine s_lstoreN (pc' := 36) (l' := #[.val (.ref a), .val (.long ((-3750763034362895579 : Int64) ^^^ ((v0 &&& (255 : Int32)).toInt64))), .second, .val (.ref a), .val (.int (2 : Int32)), .val (.int (0 : Int32)), .val (.int v0)]) X0.here hx (hb hby d1_35) rfl rfl ?_
  refine s_lloadN (pc' := 37) X0.here hx (hb hby d1_36) rfl rfl ?_
  refine Win.go (fun _ k => X0.ldc2Long hx hown (mvT hZ (hw _ (List.mem_of_getElem? (i := 18) rfl))) (g := (mkF m 37 #[.val (.ref a), .val (.long ((-3750763034362895579 : Int64) ^^^ ((v0 &&& (255 : Int32)).toInt64))), .second, .val (.ref a), .val (.int (2 : Int32)), .val (.int (0 : Int32)), .val (.int v0)] [(.long ((-3750763034362895579 : Int64) ^^^ ((v0 &&& (255 : Int32)).toInt64)))])) rfl (hb hby d1_37) _ k) ?_
  show Win p.tables e below _ (s₁.setTop (mkF m 40 #[.val (.ref a), .val (.long ((-3750763034362895579 : Int64) ^^^ ((v0 &&& (255 : Int32)).toInt64))), .second, .val (.ref a), .val (.int (2 : Int32)), .val (.int (0 : Int32)), .val (.int v0)] [(.long (1099511628211 : Int64)), (.long ((-3750763034362895579 : Int64) ^^^ ((v0 &&& (255 : Int32)).toInt64)))]))
  refine s_lmul (pc' := 41) X0.here hx (hb hby d1_40) rfl ?_
  refine s_lstoreN (pc' := 42) (l' := #[.val (.ref a), .val (.long (((-3750763034362895579 : Int64) ^^^ ((v0 &&& (255 : Int32)).toInt64)) * (1099511628211 : Int64))), .second, .val (.ref a), .val (.int (2 : Int32)), .val (.int (0 : Int32)), .val (.int v0)]) X0.here hx (hb hby d1_41) rfl rfl ?_
  generalize hs0 : (((-3750763034362895579 : Int64) ^^^ ((v0 &&& (255 : Int32)).toInt64)) * (1099511628211 : Int64)) = s0
  show Win p.tables e below _ (s₁.setTop (mkF m 42 #[.val (.ref a), .val (.long s0), .second, .val (.ref a), .val (.int (2 : Int32)), .val (.int (0 : Int32)), .val (.int v0)] []))
  refine Win.go (fun _ k => XS.iinc X0.here hx rfl (hb hby d1_42) rfl (l' := #[.val (.ref a), .val (.long s0), .second, .val (.ref a), .val (.int (2 : Int32)), .val (.int (1 : Int32)), .val (.int v0)]) rfl k) ?_
  show Win p.tables e below _ (s₁.setTop (mkF m 45 #[.val (.ref a), .val (.long s0), .second, .val (.ref a), .val (.int (2 : Int32)), .val (.int (1 : Int32)), .val (.int v0)] []))
  refine s_goto (pc' := 13) X0.here hx (hb hby d1_45) (by decide) (by decide) ?_
  refine s_iload (pc' := 15) X0.here hx (hb hby d1_13) rfl rfl ?_
  refine s_iload (pc' := 17) X0.here hx (hb hby d1_15) rfl rfl ?_
  refine s_icmpNo (pc' := 20) X0.here hx (hb hby d1_17) rfl (tltI (x := (1 : Int32)) (y := (2 : Int32)) (by decide)).2.1 ?_
  refine s_aloadN (pc' := 21) X0.here hx (hb hby d1_20) rfl rfl rfl ?_
  refine s_iload (pc' := 23) X0.here hx (hb hby d1_21) rfl rfl ?_
  obtain ⟨cl_6, Ar_6, q_6, S_6, N_6, H_6, G_6⟩ := id V_a
  have hi_6 : ¬ ((1 : Int32) < 0 ∨ cl_6.slots.size ≤ ((1 : Int32)).toNatClampNeg) := inb_of S_6 ⟨by decide, by decide⟩
  refine Win.go (fun _ k => X0.baloadBytes hx (j := (1 : Int32)) (v := (.int v1)) (by rw [e0]; exact Ar_6.1) (State.isArrayOf_alike hZ.alike Ar_6.2.1) Ar_6.2.2 hi_6 (H_6.at hi_6 rfl) (g := (mkF m 23 #[.val (.ref a), .val (.long s0), .second, .val (.ref a), .val (.int (2 : Int32)), .val (.int (1 : Int32)), .val (.int v0)] [(.int (1 : Int32)), (.ref a)])) rfl rfl (hb hby d1_23) _ k) ?_
  show Win p.tables e below _ (s₁.setTop (mkF m 24 #[.val (.ref a), .val (.long s0), .second, .val (.ref a), .val (.int (2 : Int32)), .val (.int (1 : Int32)), .val (.int v0)] [(.int v1)]))
  clear Ar_6 q_6 S_6 N_6 H_6 G_6 hi_6
  refine s_istore (pc' := 26) (l' := #[.val (.ref a), .val (.long s0), .second, .val (.ref a), .val (.int (2 : Int32)), .val (.int (1 : Int32)), .val (.int v1)]) X0.here hx (hb hby d1_24) rfl rfl ?_
  refine s_lloadN (pc' := 27) X0.here hx (hb hby d1_26) rfl rfl ?_
  refine s_iload (pc' := 29) X0.here hx (hb hby d1_27) rfl rfl ?_
  refine s_sipush (pc' := 32) (z := (255 : Int32)) X0.here hx (hb hby d1_29) rfl rfl ?_
  refine s_iand (pc' := 33) X0.here hx (hb hby d1_32) rfl ?_
  refine Win.go (fun _ k => XS.i2l X0.here hx rfl (hb hby d1_33) rfl k) ?_
  show Win p.tables e below _ (s₁.setTop (mkF m 34 #[.val (.ref a), .val (.long s0), .second, .val (.ref a), .val (.int (2 : Int32)), .val (.int (1 : Int32)), .val (.int v1)] [(.long ((v1 &&& (255 : Int32)).toInt64)), (.long s0)]))
  refine s_lxor (pc' := 35) X0.here hx (hb hby d1_34) rfl ?_
  refine s_lstoreN (pc' := 36) (l' := #[.val (.ref a), .val (.long (s0 ^^^ ((v1 &&& (255 : Int32)).toInt64))), .second, .val (.ref a), .val (.int (2 : Int32)), .val (.int (1 : Int32)), .val (.int v1)]) X0.here hx (hb hby d1_35) rfl rfl ?_
  refine s_lloadN (pc' := 37) X0.here hx (hb hby d1_36) rfl rfl ?_
  refine Win.go (fun _ k => X0.ldc2Long hx hown (mvT hZ (hw _ (List.mem_of_getElem? (i := 18) rfl))) (g := (mkF m 37 #[.val (.ref a), .val (.long (s0 ^^^ ((v1 &&& (255 : Int32)).toInt64))), .second, .val (.ref a), .val (.int (2 : Int32)), .val (.int (1 : Int32)), .val (.int v1)] [(.long (s0 ^^^ ((v1 &&& (255 : Int32)).toInt64)))])) rfl (hb hby d1_37) _ k) ?_
  show Win p.tables e below _ (s₁.setTop (mkF m 40 #[.val (.ref a), .val (.long (s0 ^^^ ((v1 &&& (255 : Int32)).toInt64))), .second, .val (.ref a), .val (.int (2 : Int32)), .val (.int (1 : Int32)), .val (.int v1)] [(.long (1099511628211 : Int64)), (.long (s0 ^^^ ((v1 &&& (255 : Int32)).toInt64)))]))
  refine s_lmul (pc' := 41) X0.here hx (hb hby d1_40) rfl ?_
  refine s_lstoreN (pc' := 42) (l' := #[.val (.ref a), .val (.long ((s0 ^^^ ((v1 &&& (255 : Int32)).toInt64)) * (1099511628211 : Int64))), .second, .val (.ref a), .val (.int (2 : Int32)), .val (.int (1 : Int32)), .val (.int v1)]) X0.here hx (hb hby d1_41) rfl rfl ?_
  generalize hs1 : ((s0 ^^^ ((v1 &&& (255 : Int32)).toInt64)) * (1099511628211 : Int64)) = s1
  show Win p.tables e below _ (s₁.setTop (mkF m 42 #[.val (.ref a), .val (.long s1), .second, .val (.ref a), .val (.int (2 : Int32)), .val (.int (1 : Int32)), .val (.int v1)] []))
  refine Win.go (fun _ k => XS.iinc X0.here hx rfl (hb hby d1_42) rfl (l' := #[.val (.ref a), .val (.long s1), .second, .val (.ref a), .val (.int (2 : Int32)), .val (.int (2 : Int32)), .val (.int v1)]) rfl k) ?_
  show Win p.tables e below _ (s₁.setTop (mkF m 45 #[.val (.ref a), .val (.long s1), .second, .val (.ref a), .val (.int (2 : Int32)), .val (.int (2 : Int32)), .val (.int v1)] []))
  refine s_goto (pc' := 13) X0.here hx (hb hby d1_45) (by decide) (by decide) ?_
  refine s_iload (pc' := 15) X0.here hx (hb hby d1_13) rfl rfl ?_
  refine s_iload (pc' := 17) X0.here hx (hb hby d1_15) rfl rfl ?_
  refine s_icmpYes (pc' := 48) X0.here hx (hb hby d1_17) (fltI (x := (2 : Int32)) (y := (2 : Int32)) (by decide)).2.1 (by decide) (by decide) ?_
  refine s_lloadN (pc' := 49) X0.here hx (hb hby d1_48) rfl rfl ?_
  refine s_lloadN (pc' := 50) X0.here hx (hb hby d1_49) rfl rfl ?_
  refine s_bipush (pc' := 52) (z := (33 : Int32)) X0.here hx (hb hby d1_50) rfl rfl ?_
  refine Win.go (fun _ k => XT.lushr X0.here hx rfl (hb hby d1_52) rfl k) ?_
  show Win p.tables e below _ (s₁.setTop (mkF m 53 #[.val (.ref a), .val (.long s1), .second, .val (.ref a), .val (.int (2 : Int32)), .val (.int (2 : Int32)), .val (.int v1)] [(.long (XT.ushrL s1 (33 : Int32))), (.long s1)]))
  refine s_lxor (pc' := 54) X0.here hx (hb hby d1_53) rfl ?_
  refine s_lstoreN (pc' := 55) (l' := #[.val (.ref a), .val (.long (s1 ^^^ (XT.ushrL s1 (33 : Int32)))), .second, .val (.ref a), .val (.int (2 : Int32)), .val (.int (2 : Int32)), .val (.int v1)]) X0.here hx (hb hby d1_54) rfl rfl ?_
  refine s_lloadN (pc' := 56) X0.here hx (hb hby d1_55) rfl rfl ?_
  refine Win.go (fun _ k => X0.ldc2Long hx hown (mvT hZ (hw _ (List.mem_of_getElem? (i := 7) rfl))) (g := (mkF m 56 #[.val (.ref a), .val (.long (s1 ^^^ (XT.ushrL s1 (33 : Int32)))), .second, .val (.ref a), .val (.int (2 : Int32)), .val (.int (2 : Int32)), .val (.int v1)] [(.long (s1 ^^^ (XT.ushrL s1 (33 : Int32))))])) rfl (hb hby d1_56) _ k) ?_
  show Win p.tables e below _ (s₁.setTop (mkF m 59 #[.val (.ref a), .val (.long (s1 ^^^ (XT.ushrL s1 (33 : Int32)))), .second, .val (.ref a), .val (.int (2 : Int32)), .val (.int (2 : Int32)), .val (.int v1)] [(.long (-49064778989728563 : Int64)), (.long (s1 ^^^ (XT.ushrL s1 (33 : Int32))))]))
  refine s_lmul (pc' := 60) X0.here hx (hb hby d1_59) rfl ?_
  refine s_lstoreN (pc' := 61) (l' := #[.val (.ref a), .val (.long ((s1 ^^^ (XT.ushrL s1 (33 : Int32))) * (-49064778989728563 : Int64))), .second, .val (.ref a), .val (.int (2 : Int32)), .val (.int (2 : Int32)), .val (.int v1)]) X0.here hx (hb hby d1_60) rfl rfl ?_
  generalize ht1 : ((s1 ^^^ (XT.ushrL s1 (33 : Int32))) * (-49064778989728563 : Int64)) = t1
  show Win p.tables e below _ (s₁.setTop (mkF m 61 #[.val (.ref a), .val (.long t1), .second, .val (.ref a), .val (.int (2 : Int32)), .val (.int (2 : Int32)), .val (.int v1)] []))
  refine s_lloadN (pc' := 62) X0.here hx (hb hby d1_61) rfl rfl ?_
  refine s_lloadN (pc' := 63) X0.here hx (hb hby d1_62) rfl rfl ?_
  refine s_bipush (pc' := 65) (z := (33 : Int32)) X0.here hx (hb hby d1_63) rfl rfl ?_
  refine Win.go (fun _ k => XT.lushr X0.here hx rfl (hb hby d1_65) rfl k) ?_
  show Win p.tables e below _ (s₁.setTop (mkF m 66 #[.val (.ref a), .val (.long t1), .second, .val (.ref a), .val (.int (2 : Int32)), .val (.int (2 : Int32)), .val (.int v1)] [(.long (XT.ushrL t1 (33 : Int32))), (.long t1)]))
  refine s_lxor (pc' := 67) X0.here hx (hb hby d1_66) rfl ?_
  refine s_lstoreN (pc' := 68) (l' := #[.val (.ref a), .val (.long (t1 ^^^ (XT.ushrL t1 (33 : Int32)))), .second, .val (.ref a), .val (.int (2 : Int32)), .val (.int (2 : Int32)), .val (.int v1)]) X0.here hx (hb hby d1_67) rfl rfl ?_
  refine s_lloadN (pc' := 69) X0.here hx (hb hby d1_68) rfl rfl ?_
  refine Win.go (fun _ k => X0.ldc2Long hx hown (mvT hZ (hw _ (List.mem_of_getElem? (i := 8) rfl))) (g := (mkF m 69 #[.val (.ref a), .val (.long (t1 ^^^ (XT.ushrL t1 (33 : Int32)))), .second, .val (.ref a), .val (.int (2 : Int32)), .val (.int (2 : Int32)), .val (.int v1)] [(.long (t1 ^^^ (XT.ushrL t1 (33 : Int32))))])) rfl (hb hby d1_69) _ k) ?_
  show Win p.tables e below _ (s₁.setTop (mkF m 72 #[.val (.ref a), .val (.long (t1 ^^^ (XT.ushrL t1 (33 : Int32)))), .second, .val (.ref a), .val (.int (2 : Int32)), .val (.int (2 : Int32)), .val (.int v1)] [(.long (-4265267296055464877 : Int64)), (.long (t1 ^^^ (XT.ushrL t1 (33 : Int32))))]))
  refine s_lmul (pc' := 73) X0.here hx (hb hby d1_72) rfl ?_
  refine s_lstoreN (pc' := 74) (l' := #[.val (.ref a), .val (.long ((t1 ^^^ (XT.ushrL t1 (33 : Int32))) * (-4265267296055464877 : Int64))), .second, .val (.ref a), .val (.int (2 : Int32)), .val (.int (2 : Int32)), .val (.int v1)]) X0.here hx (hb hby d1_73) rfl rfl ?_
  generalize ht2 : ((t1 ^^^ (XT.ushrL t1 (33 : Int32))) * (-4265267296055464877 : Int64)) = t2
  show Win p.tables e below _ (s₁.setTop (mkF m 74 #[.val (.ref a), .val (.long t2), .second, .val (.ref a), .val (.int (2 : Int32)), .val (.int (2 : Int32)), .val (.int v1)] []))
  refine s_lloadN (pc' := 75) X0.here hx (hb hby d1_74) rfl rfl ?_
  refine s_lloadN (pc' := 76) X0.here hx (hb hby d1_75) rfl rfl ?_
  refine s_bipush (pc' := 78) (z := (33 : Int32)) X0.here hx (hb hby d1_76) rfl rfl ?_
  refine Win.go (fun _ k => XT.lushr X0.here hx rfl (hb hby d1_78) rfl k) ?_
  show Win p.tables e below _ (s₁.setTop (mkF m 79 #[.val (.ref a), .val (.long t2), .second, .val (.ref a), .val (.int (2 : Int32)), .val (.int (2 : Int32)), .val (.int v1)] [(.long (XT.ushrL t2 (33 : Int32))), (.long t2)]))
  refine s_lxor (pc' := 80) X0.here hx (hb hby d1_79) rfl ?_
  refine s_lstoreN (pc' := 81) (l' := #[.val (.ref a), .val (.long (t2 ^^^ (XT.ushrL t2 (33 : Int32)))), .second, .val (.ref a), .val (.int (2 : Int32)), .val (.int (2 : Int32)), .val (.int v1)]) X0.here hx (hb hby d1_80) rfl rfl ?_
  refine s_lloadN (pc' := 82) X0.here hx (hb hby d1_81) rfl rfl ?_
  refine winL X0 hx hlk e0 Bd.returns (hb hby d1_82) (by decide) (by decide) ?_
  exact ⟨Nf, rfl, by rw [← ht2, ← ht1, ← hs1, ← hs0]; rfl⟩
theorem ef_1_3 (m : MethodId) (a : Addr) : entryFrame m #[(.ref a)] 7 = mkF m 0 #[.val (.ref a), .unset, .unset, .unset, .unset, .unset, .unset] [] := by first | (simp [entryFrame, mkF, argsToLocals, Value.category]; done) | rfl
def Q1_3 (Z : State) (a : Addr) (kk : ClassId) (v0 : Int32) (v1 : Int32) (v2 : Int32) (h0 : Heap) (n0 : Nat) (v : Option Value) (h : Heap) (L : List Loc) : Prop := Fr n0 L ∧ h = h0 ∧ v = some (.long (hmix (hstep (hstep (hstep (-3750763034362895579 : Int64) v0) v1) v2)))
set_option maxRecDepth 65536 in
set_option maxHeartbeats 40000000 in
theorem rm1_3 (l : Launch) (Z : State) (a0 : Array Value) (hw : ∀ d ∈ tables_1, d.before a0 Z = true) (ws : List Jvm.Cond) (a : Addr) (kk : ClassId) (v0 : Int32) (v1 : Int32) (v2 : Int32) (h0 : Heap) (n0 : Nat) (Zs : n0 ≤ h0.size) (V_a : Arv Z h0 a kk .byte (3 : Int32) [(.int v0), (.int v1), (.int v2)] (.int (0 : Int32))) :
    MetFree l (⟨"com/example/sextant/sextant/store/Dictionary", "hash", "([B)J"⟩ : MethodName) (head1 (Jvm.Cond.code (⟨"com/example/sextant/sextant/store/Dictionary", "hash", "([B)J"⟩ : MethodName) prog_75_method_21_code 7 (some .long) :: ws) ({ frames := 0, cells := 0, slots := 0, locals := 0 } : Room)) (fun as' U => as' = #[(.ref a)] ∧ Z.Warmed39 U.vm ∧ U.heap = h0) (fun _ _ _ _ _ => True) (fun _ U o U' => ∃ v L, o = .returned v ∧ Q1_3 Z a kk v0 v1 v2 h0 n0 v U'.heap L ∧ FrameEnd U o U' L ({ frames := 0, cells := 0, slots := 0, locals := 0 } : Room).cells ({ frames := 0, cells := 0, slots := 0, locals := 0 } : Room).slots) := by
  refine MetFree.of_bodySF (plainFor_of_name pn_1) hisR ?_
  intro p e s m args below meth c s₁ Bd hml0 hP hK
  obtain ⟨rfl, hZ, hh⟩ := hP
  have hx := Bd.exec
  have hby := Bd.bytes
  have hml : c.maxLocals = 7 := hml0
  have hown : s.vm.findClass "com/example/sextant/sextant/store/Dictionary" = some m.cls := findClass_of_methodNamed Bd.named
  have hnm := (name_of_methodNamed Bd.named Bd.method).1
  have hlk : meth.locks = false := Bd.notSynchronized
  have X0 : Stand p l e ({ frames := 0, cells := 0, slots := 0, locals := 0 } : Room) s m #[(.ref a)] below meth c s₁ [] 0 0 := Stand.of_body Bd
  have e0 : s₁.heap = h0 := by rw [← hh, Bd.state]; rfl
  have Nf := Fr.nil n0
  refine (?_ : Win p.tables e below (PostQ s (Q1_3 Z a kk v0 v1 v2 h0 n0) ({ frames := 0, cells := 0, slots := 0, locals := 0 } : Room).cells ({ frames := 0, cells := 0, slots := 0, locals := 0 } : Room).slots) (s₁.setTop (entryFrame m #[(.ref a)] 7)))
  rw [ef_1_3]
  have lt_a : a < h0.size := V_a.lt
  show Win p.tables e below _ (s₁.setTop (mkF m 0 #[.val (.ref a), .unset, .unset, .unset, .unset, .unset, .unset] []))
  refine Win.go (fun _ k => X0.ldc2Long hx hown (mvT hZ (hw _ (List.mem_of_getElem? (i := 6) rfl))) (g := (mkF m 0 #[.val (.ref a), .unset, .unset, .unset, .unset, .unset, .unset] [])) rfl (hb hby d1_0) _ k) ?_
  show Win p.tables e below _ (s₁.setTop (mkF m 3 #[.val (.ref a), .unset, .unset, .unset, .unset, .unset, .unset] [(.long (-3750763034362895579 : Int64))]))
  refine s_lstoreN (pc' := 4) (l' := #[.val (.ref a), .val (.long (-3750763034362895579 : Int64)), .second, .unset, .unset, .unset, .unset]) X0.here hx (hb hby d1_3) rfl rfl ?_
  refine s_aloadN (pc' := 5) X0.here hx (hb hby d1_4) rfl rfl rfl ?_
  refine s_astoreN (pc' := 6) (l' := #[.val (.ref a), .val (.long (-3750763034362895579 : Int64)), .second, .val (.ref a), .unset, .unset, .unset]) X0.here hx (hb hby d1_5) rfl rfl rfl ?_
  refine s_aloadN (pc' := 7) X0.here hx (hb hby d1_6) rfl rfl rfl ?_
  obtain ⟨cl_7, Ar_7, q_7, S_7, N_7, H_7, G_7⟩ := id V_a
  refine Win.go (fun _ k => X0.arraylength hx (by rw [e0]; exact Ar_7.1) (State.isArrayOf_alike hZ.alike Ar_7.2.1) (g := (mkF m 7 #[.val (.ref a), .val (.long (-3750763034362895579 : Int64)), .second, .val (.ref a), .unset, .unset, .unset] [(.ref a)])) rfl rfl (hb hby d1_7) _ k) ?_
  rw [len_of S_7 N_7]
  clear Ar_7 q_7 S_7 N_7 H_7 G_7
  show Win p.tables e below _ (s₁.setTop (mkF m 8 #[.val (.ref a), .val (.long (-3750763034362895579 : Int64)), .second, .val (.ref a), .unset, .unset, .unset] [(.int (3 : Int32))]))
  refine s_istore (pc' := 10) (l' := #[.val (.ref a), .val (.long (-3750763034362895579 : Int64)), .second, .val (.ref a), .val (.int (3 : Int32)), .unset, .unset]) X0.here hx (hb hby d1_8) rfl rfl ?_
  refine s_iconst (pc' := 11) (z := (0 : Int32)) X0.here hx (hb hby d1_10) rfl rfl ?_
  refine s_istore (pc' := 13) (l' := #[.val (.ref a), .val (.long (-3750763034362895579 : Int64)), .second, .val (.ref a), .val (.int (3 : Int32)), .val (.int (0 : Int32)), .unset]) X0.here hx (hb hby d1_11) rfl rfl ?_
  refine s_iload (pc' := 15) X0.here hx (hb hby d1_13) rfl rfl ?_
  refine s_iload (pc' := 17) X0.here hx (hb hby d1_15) rfl rfl ?_
  refine s_icmpNo (pc' := 20) X0.here hx (hb hby d1_17) rfl (tltI (x := (0 : Int32)) (y := (3 : Int32)) (by decide)).2.1 ?_
  refine s_aloadN (pc' := 21) X0.here hx (hb hby d1_20) rfl rfl rfl ?_
  refine s_iload (pc' := 23) X0.here hx (hb hby d1_21) rfl rfl ?_
  obtain ⟨cl_8, Ar_8, q_8, S_8, N_8, H_8, G_8⟩ := id V_a
  have hi_8 : ¬ ((0 : Int32) < 0 ∨ cl_8.slots.size ≤ ((0 : Int32)).toNatClampNeg) := inb_of S_8 ⟨by decide, by decide⟩
  refine Win.go (fun _ k => X0.baloadBytes hx (j := (0 : Int32)) (v := (.int v0)) (by rw [e0]; exact Ar_8.1) (State.isArrayOf_alike hZ.alike Ar_8.2.1) Ar_8.2.2 hi_8 (H_8.at hi_8 rfl) (g := (mkF m 23 #[.val (.ref a), .val (.long (-3750763034362895579 : Int64)), .second, .val (.ref a), .val (.int (3 : Int32)), .val (.int (0 : Int32)), .unset] [(.int (0 : Int32)), (.ref a)])) rfl rfl (hb hby d1_23) _ k) ?_
  show Win p.tables e below _ (s₁.setTop (mkF m 24 #[.val (.ref a), .val (.long (-3750763034362895579 : Int64)), .second, .val (.ref a), .val (.int (3 : Int32)), .val (.int (0 : Int32)), .unset] [(.int v0)]))
  clear Ar_8 q_8 S_8 N_8 H_8 G_8 hi_8
  refine s_istore (pc' := 26) (l' := #[.val (.ref a), .val (.long (-3750763034362895579 : Int64)), .second, .val (.ref a), .val (.int (3 : Int32)), .val (.int (0 : Int32)), .val (.int v0)]) X0.here hx (hb hby d1_24) rfl rfl ?_
  refine s_lloadN (pc' := 27) X0.here hx (hb hby d1_26) rfl rfl ?_
  refine s_iload (pc' := 29) X0.here hx (hb hby d1_27) rfl rfl ?_
  refine s_sipush (pc' := 32) (z := (255 : Int32)) X0.here hx (hb hby d1_29) rfl rfl ?_
  refine s_iand (pc' := 33) X0.here hx (hb hby d1_32) rfl ?_
  refine Win.go (fun _ k => XS.i2l X0.here hx rfl (hb hby d1_33) rfl k) ?_
  show Win p.tables e below _ (s₁.setTop (mkF m 34 #[.val (.ref a), .val (.long (-3750763034362895579 : Int64)), .second, .val (.ref a), .val (.int (3 : Int32)), .val (.int (0 : Int32)), .val (.int v0)] [(.long ((v0 &&& (255 : Int32)).toInt64)), (.long (-3750763034362895579 : Int64))]))
  refine s_lxor (pc' := 35) X0.here hx (hb hby d1_34) rfl ?_
  refine s_lstoreN (pc' := 36) (l' := #[.val (.ref a), .val (.long ((-3750763034362895579 : Int64) ^^^ ((v0 &&& (255 : Int32)).toInt64))), .second, .val (.ref a), .val (.int (3 : Int32)), .val (.int (0 : Int32)), .val (.int v0)]) X0.here hx (hb hby d1_35) rfl rfl ?_
  refine s_lloadN (pc' := 37) X0.here hx (hb hby d1_36) rfl rfl ?_
  refine Win.go (fun _ k => X0.ldc2Long hx hown (mvT hZ (hw _ (List.mem_of_getElem? (i := 18) rfl))) (g := (mkF m 37 #[.val (.ref a), .val (.long ((-3750763034362895579 : Int64) ^^^ ((v0 &&& (255 : Int32)).toInt64))), .second, .val (.ref a), .val (.int (3 : Int32)), .val (.int (0 : Int32)), .val (.int v0)] [(.long ((-3750763034362895579 : Int64) ^^^ ((v0 &&& (255 : Int32)).toInt64)))])) rfl (hb hby d1_37) _ k) ?_
  show Win p.tables e below _ (s₁.setTop (mkF m 40 #[.val (.ref a), .val (.long ((-3750763034362895579 : Int64) ^^^ ((v0 &&& (255 : Int32)).toInt64))), .second, .val (.ref a), .val (.int (3 : Int32)), .val (.int (0 : Int32)), .val (.int v0)] [(.long (1099511628211 : Int64)), (.long ((-3750763034362895579 : Int64) ^^^ ((v0 &&& (255 : Int32)).toInt64)))]))
  refine s_lmul (pc' := 41) X0.here hx (hb hby d1_40) rfl ?_
  refine s_lstoreN (pc' := 42) (l' := #[.val (.ref a), .val (.long (((-3750763034362895579 : Int64) ^^^ ((v0 &&& (255 : Int32)).toInt64)) * (1099511628211 : Int64))), .second, .val (.ref a), .val (.int (3 : Int32)), .val (.int (0 : Int32)), .val (.int v0)]) X0.here hx (hb hby d1_41) rfl rfl ?_
  generalize hs0 : (((-3750763034362895579 : Int64) ^^^ ((v0 &&& (255 : Int32)).toInt64)) * (1099511628211 : Int64)) = s0
  show Win p.tables e below _ (s₁.setTop (mkF m 42 #[.val (.ref a), .val (.long s0), .second, .val (.ref a), .val (.int (3 : Int32)), .val (.int (0 : Int32)), .val (.int v0)] []))
  refine Win.go (fun _ k => XS.iinc X0.here hx rfl (hb hby d1_42) rfl (l' := #[.val (.ref a), .val (.long s0), .second, .val (.ref a), .val (.int (3 : Int32)), .val (.int (1 : Int32)), .val (.int v0)]) rfl k) ?_
  show Win p.tables e below _ (s₁.setTop (mkF m 45 #[.val (.ref a), .val (.long s0), .second, .val (.ref a), .val (.int (3 : Int32)), .val (.int (1 : Int32)), .val (.int v0)] []))
  refine s_goto (pc' := 13) X0.here hx (hb hby d1_45) (by decide) (by decide) ?_
  refine s_iload (pc' := 15) X0.here hx (hb hby d1_13) rfl rfl ?_
  refine s_iload (pc' := 17) X0.here hx (hb hby d1_15) rfl rfl ?_
  refine s_icmpNo (pc' := 20) X0.here hx (hb hby d1_17) rfl (tltI (x := (1 : Int32)) (y := (3 : Int32)) (by decide)).2.1 ?_
  refine s_aloadN (pc' := 21) X0.here hx (hb hby d1_20) rfl rfl rfl ?_
  refine s_iload (pc' := 23) X0.here hx (hb hby d1_21) rfl rfl ?_
  obtain ⟨cl_9, Ar_9, q_9, S_9, N_9, H_9, G_9⟩ := id V_a
  have hi_9 : ¬ ((1 : Int32) < 0 ∨ cl_9.slots.size ≤ ((1 : Int32)).toNatClampNeg) := inb_of S_9 ⟨by decide, by decide⟩
  refine Win.go (fun _ k => X0.baloadBytes hx (j := (1 : Int32)) (v := (.int v1)) (by rw [e0]; exact Ar_9.1) (State.isArrayOf_alike hZ.alike Ar_9.2.1) Ar_9.2.2 hi_9 (H_9.at hi_9 rfl) (g := (mkF m 23 #[.val (.ref a), .val (.long s0), .second, .val (.ref a), .val (.int (3 : Int32)), .val (.int (1 : Int32)), .val (.int v0)] [(.int (1 : Int32)), (.ref a)])) rfl rfl (hb hby d1_23) _ k) ?_
  show Win p.tables e below _ (s₁.setTop (mkF m 24 #[.val (.ref a), .val (.long s0), .second, .val (.ref a), .val (.int (3 : Int32)), .val (.int (1 : Int32)), .val (.int v0)] [(.int v1)]))
  clear Ar_9 q_9 S_9 N_9 H_9 G_9 hi_9
  refine s_istore (pc' := 26) (l' := #[.val (.ref a), .val (.long s0), .second, .val (.ref a), .val (.int (3 : Int32)), .val (.int (1 : Int32)), .val (.int v1)]) X0.here hx (hb hby d1_24) rfl rfl ?_
  refine s_lloadN (pc' := 27) X0.here hx (hb hby d1_26) rfl rfl ?_
  refine s_iload (pc' := 29) X0.here hx (hb hby d1_27) rfl rfl ?_
  refine s_sipush (pc' := 32) (z := (255 : Int32)) X0.here hx (hb hby d1_29) rfl rfl ?_
  refine s_iand (pc' := 33) X0.here hx (hb hby d1_32) rfl ?_
  refine Win.go (fun _ k => XS.i2l X0.here hx rfl (hb hby d1_33) rfl k) ?_
  show Win p.tables e below _ (s₁.setTop (mkF m 34 #[.val (.ref a), .val (.long s0), .second, .val (.ref a), .val (.int (3 : Int32)), .val (.int (1 : Int32)), .val (.int v1)] [(.long ((v1 &&& (255 : Int32)).toInt64)), (.long s0)]))
  refine s_lxor (pc' := 35) X0.here hx (hb hby d1_34) rfl ?_
  refine s_lstoreN (pc' := 36) (l' := #[.val (.ref a), .val (.long (s0 ^^^ ((v1 &&& (255 : Int32)).toInt64))), .second, .val (.ref a), .val (.int (3 : Int32)), .val (.int (1 : Int32)), .val (.int v1)]) X0.here hx (hb hby d1_35) rfl rfl ?_
  refine s_lloadN (pc' := 37) X0.here hx (hb hby d1_36) rfl rfl ?_
  refine Win.go (fun _ k => X0.ldc2Long hx hown (mvT hZ (hw _ (List.mem_of_getElem? (i := 18) rfl))) (g := (mkF m 37 #[.val (.ref a), .val (.long (s0 ^^^ ((v1 &&& (255 : Int32)).toInt64))), .second, .val (.ref a), .val (.int (3 : Int32)), .val (.int (1 : Int32)), .val (.int v1)] [(.long (s0 ^^^ ((v1 &&& (255 : Int32)).toInt64)))])) rfl (hb hby d1_37) _ k) ?_
  show Win p.tables e below _ (s₁.setTop (mkF m 40 #[.val (.ref a), .val (.long (s0 ^^^ ((v1 &&& (255 : Int32)).toInt64))), .second, .val (.ref a), .val (.int (3 : Int32)), .val (.int (1 : Int32)), .val (.int v1)] [(.long (1099511628211 : Int64)), (.long (s0 ^^^ ((v1 &&& (255 : Int32)).toInt64)))]))
  refine s_lmul (pc' := 41) X0.here hx (hb hby d1_40) rfl ?_
  refine s_lstoreN (pc' := 42) (l' := #[.val (.ref a), .val (.long ((s0 ^^^ ((v1 &&& (255 : Int32)).toInt64)) * (1099511628211 : Int64))), .second, .val (.ref a), .val (.int (3 : Int32)), .val (.int (1 : Int32)), .val (.int v1)]) X0.here hx (hb hby d1_41) rfl rfl ?_
  generalize hs1 : ((s0 ^^^ ((v1 &&& (255 : Int32)).toInt64)) * (1099511628211 : Int64)) = s1
  show Win p.tables e below _ (s₁.setTop (mkF m 42 #[.val (.ref a), .val (.long s1), .second, .val (.ref a), .val (.int (3 : Int32)), .val (.int (1 : Int32)), .val (.int v1)] []))
  refine Win.go (fun _ k => XS.iinc X0.here hx rfl (hb hby d1_42) rfl (l' := #[.val (.ref a), .val (.long s1), .second, .val (.ref a), .val (.int (3 : Int32)), .val (.int (2 : Int32)), .val (.int v1)]) rfl k) ?_
  show Win p.tables e below _ (s₁.setTop (mkF m 45 #[.val (.ref a), .val (.long s1), .second, .val (.ref a), .val (.int (3 : Int32)), .val (.int (2 : Int32)), .val (.int v1)] []))
  refine s_goto (pc' := 13) X0.here hx (hb hby d1_45) (by decide) (by decide) ?_
  refine s_iload (pc' := 15) X0.here hx (hb hby d1_13) rfl rfl ?_
  refine s_iload (pc' := 17) X0.here hx (hb hby d1_15) rfl rfl ?_
  refine s_icmpNo (pc' := 20) X0.here hx (hb hby d1_17) rfl (tltI (x := (2 : Int32)) (y := (3 : Int32)) (by decide)).2.1 ?_
  refine s_aloadN (pc' := 21) X0.here hx (hb hby d1_20) rfl rfl rfl ?_
  refine s_iload (pc' := 23) X0.here hx (hb hby d1_21) rfl rfl ?_
  obtain ⟨cl_10, Ar_10, q_10, S_10, N_10, H_10, G_10⟩ := id V_a
  have hi_10 : ¬ ((2 : Int32) < 0 ∨ cl_10.slots.size ≤ ((2 : Int32)).toNatClampNeg) := inb_of S_10 ⟨by decide, by decide⟩
  refine Win.go (fun _ k => X0.baloadBytes hx (j := (2 : Int32)) (v := (.int v2)) (by rw [e0]; exact Ar_10.1) (State.isArrayOf_alike hZ.alike Ar_10.2.1) Ar_10.2.2 hi_10 (H_10.at hi_10 rfl) (g := (mkF m 23 #[.val (.ref a), .val (.long s1), .second, .val (.ref a), .val (.int (3 : Int32)), .val (.int (2 : Int32)), .val (.int v1)] [(.int (2 : Int32)), (.ref a)])) rfl rfl (hb hby d1_23) _ k) ?_
  show Win p.tables e below _ (s₁.setTop (mkF m 24 #[.val (.ref a), .val (.long s1), .second, .val (.ref a), .val (.int (3 : Int32)), .val (.int (2 : Int32)), .val (.int v1)] [(.int v2)]))
  clear Ar_10 q_10 S_10 N_10 H_10 G_10 hi_10
  refine s_istore (pc' := 26) (l' := #[.val (.ref a), .val (.long s1), .second, .val (.ref a), .val (.int (3 : Int32)), .val (.int (2 : Int32)), .val (.int v2)]) X0.here hx (hb hby d1_24) rfl rfl ?_
  refine s_lloadN (pc' := 27) X0.here hx (hb hby d1_26) rfl rfl ?_
  refine s_iload (pc' := 29) X0.here hx (hb hby d1_27) rfl rfl ?_
  refine s_sipush (pc' := 32) (z := (255 : Int32)) X0.here hx (hb hby d1_29) rfl rfl ?_
  refine s_iand (pc' := 33) X0.here hx (hb hby d1_32) rfl ?_
  refine Win.go (fun _ k => XS.i2l X0.here hx rfl (hb hby d1_33) rfl k) ?_
  show Win p.tables e below _ (s₁.setTop (mkF m 34 #[.val (.ref a), .val (.long s1), .second, .val (.ref a), .val (.int (3 : Int32)), .val (.int (2 : Int32)), .val (.int v2)] [(.long ((v2 &&& (255 : Int32)).toInt64)), (.long s1)]))
  refine s_lxor (pc' := 35) X0.here hx (hb hby d1_34) rfl ?_
  refine s_lstoreN (pc' := 36) (l' := #[.val (.ref a), .val (.long (s1 ^^^ ((v2 &&& (255 : Int32)).toInt64))), .second, .val (.ref a), .val (.int (3 : Int32)), .val (.int (2 : Int32)), .val (.int v2)]) X0.here hx (hb hby d1_35) rfl rfl ?_
  refine s_lloadN (pc' := 37) X0.here hx (hb hby d1_36) rfl rfl ?_
  refine Win.go (fun _ k => X0.ldc2Long hx hown (mvT hZ (hw _ (List.mem_of_getElem? (i := 18) rfl))) (g := (mkF m 37 #[.val (.ref a), .val (.long (s1 ^^^ ((v2 &&& (255 : Int32)).toInt64))), .second, .val (.ref a), .val (.int (3 : Int32)), .val (.int (2 : Int32)), .val (.int v2)] [(.long (s1 ^^^ ((v2 &&& (255 : Int32)).toInt64)))])) rfl (hb hby d1_37) _ k) ?_
  show Win p.tables e below _ (s₁.setTop (mkF m 40 #[.val (.ref a), .val (.long (s1 ^^^ ((v2 &&& (255 : Int32)).toInt64))), .second, .val (.ref a), .val (.int (3 : Int32)), .val (.int (2 : Int32)), .val (.int v2)] [(.long (1099511628211 : Int64)), (.long (s1 ^^^ ((v2 &&& (255 : Int32)).toInt64)))]))
  refine s_lmul (pc' := 41) X0.here hx (hb hby d1_40) rfl ?_
  refine s_lstoreN (pc' := 42) (l' := #[.val (.ref a), .val (.long ((s1 ^^^ ((v2 &&& (255 : Int32)).toInt64)) * (1099511628211 : Int64))), .second, .val (.ref a), .val (.int (3 : Int32)), .val (.int (2 : Int32)), .val (.int v2)]) X0.here hx (hb hby d1_41) rfl rfl ?_
  generalize hs2 : ((s1 ^^^ ((v2 &&& (255 : Int32)).toInt64)) * (1099511628211 : Int64)) = s2
  show Win p.tables e below _ (s₁.setTop (mkF m 42 #[.val (.ref a), .val (.long s2), .second, .val (.ref a), .val (.int (3 : Int32)), .val (.int (2 : Int32)), .val (.int v2)] []))
  refine Win.go (fun _ k => XS.iinc X0.here hx rfl (hb hby d1_42) rfl (l' := #[.val (.ref a), .val (.long s2), .second, .val (.ref a), .val (.int (3 : Int32)), .val (.int (3 : Int32)), .val (.int v2)]) rfl k) ?_
  show Win p.tables e below _ (s₁.setTop (mkF m 45 #[.val (.ref a), .val (.long s2), .second, .val (.ref a), .val (.int (3 : Int32)), .val (.int (3 : Int32)), .val (.int v2)] []))
  refine s_goto (pc' := 13) X0.here hx (hb hby d1_45) (by decide) (by decide) ?_
  refine s_iload (pc' := 15) X0.here hx (hb hby d1_13) rfl rfl ?_
  refine s_iload (pc' := 17) X0.here hx (hb hby d1_15) rfl rfl ?_
  refine s_icmpYes (pc' := 48) X0.here hx (hb hby d1_17) (fltI (x := (3 : Int32)) (y := (3 : Int32)) (by decide)).2.1 (by decide) (by decide) ?_
  refine s_lloadN (pc' := 49) X0.here hx (hb hby d1_48) rfl rfl ?_
  refine s_lloadN (pc' := 50) X0.here hx (hb hby d1_49) rfl rfl ?_
  refine s_bipush (pc' := 52) (z := (33 : Int32)) X0.here hx (hb hby d1_50) rfl rfl ?_
  refine Win.go (fun _ k => XT.lushr X0.here hx rfl (hb hby d1_52) rfl k) ?_
  show Win p.tables e below _ (s₁.setTop (mkF m 53 #[.val (.ref a), .val (.long s2), .second, .val (.ref a), .val (.int (3 : Int32)), .val (.int (3 : Int32)), .val (.int v2)] [(.long (XT.ushrL s2 (33 : Int32))), (.long s2)]))
  refine s_lxor (pc' := 54) X0.here hx (hb hby d1_53) rfl ?_
  refine s_lstoreN (pc' := 55) (l' := #[.val (.ref a), .val (.long (s2 ^^^ (XT.ushrL s2 (33 : Int32)))), .second, .val (.ref a), .val (.int (3 : Int32)), .val (.int (3 : Int32)), .val (.int v2)]) X0.here hx (hb hby d1_54) rfl rfl ?_
  refine s_lloadN (pc' := 56) X0.here hx (hb hby d1_55) rfl rfl ?_
  refine Win.go (fun _ k => X0.ldc2Long hx hown (mvT hZ (hw _ (List.mem_of_getElem? (i := 7) rfl))) (g := (mkF m 56 #[.val (.ref a), .val (.long (s2 ^^^ (XT.ushrL s2 (33 : Int32)))), .second, .val (.ref a), .val (.int (3 : Int32)), .val (.int (3 : Int32)), .val (.int v2)] [(.long (s2 ^^^ (XT.ushrL s2 (33 : Int32))))])) rfl (hb hby d1_56) _ k) ?_
  show Win p.tables e below _ (s₁.setTop (mkF m 59 #[.val (.ref a), .val (.long (s2 ^^^ (XT.ushrL s2 (33 : Int32)))), .second, .val (.ref a), .val (.int (3 : Int32)), .val (.int (3 : Int32)), .val (.int v2)] [(.long (-49064778989728563 : Int64)), (.long (s2 ^^^ (XT.ushrL s2 (33 : Int32))))]))
  refine s_lmul (pc' := 60) X0.here hx (hb hby d1_59) rfl ?_
  refine s_lstoreN (pc' := 61) (l' := #[.val (.ref a), .val (.long ((s2 ^^^ (XT.ushrL s2 (33 : Int32))) * (-49064778989728563 : Int64))), .second, .val (.ref a), .val (.int (3 : Int32)), .val (.int (3 : Int32)), .val (.int v2)]) X0.here hx (hb hby d1_60) rfl rfl ?_
  generalize ht1 : ((s2 ^^^ (XT.ushrL s2 (33 : Int32))) * (-49064778989728563 : Int64)) = t1
  show Win p.tables e below _ (s₁.setTop (mkF m 61 #[.val (.ref a), .val (.long t1), .second, .val (.ref a), .val (.int (3 : Int32)), .val (.int (3 : Int32)), .val (.int v2)] []))
  refine s_lloadN (pc' := 62) X0.here hx (hb hby d1_61) rfl rfl ?_
  refine s_lloadN (pc' := 63) X0.here hx (hb hby d1_62) rfl rfl ?_
  refine s_bipush (pc' := 65) (z := (33 : Int32)) X0.here hx (hb hby d1_63) rfl rfl ?_
  refine Win.go (fun _ k => XT.lushr X0.here hx rfl (hb hby d1_65) rfl k) ?_
  show Win p.tables e below _ (s₁.setTop (mkF m 66 #[.val (.ref a), .val (.long t1), .second, .val (.ref a), .val (.int (3 : Int32)), .val (.int (3 : Int32)), .val (.int v2)] [(.long (XT.ushrL t1 (33 : Int32))), (.long t1)]))
  refine s_lxor (pc' := 67) X0.here hx (hb hby d1_66) rfl ?_
  refine s_lstoreN (pc' := 68) (l' := #[.val (.ref a), .val (.long (t1 ^^^ (XT.ushrL t1 (33 : Int32)))), .second, .val (.ref a), .val (.int (3 : Int32)), .val (.int (3 : Int32)), .val (.int v2)]) X0.here hx (hb hby d1_67) rfl rfl ?_
  refine s_lloadN (pc' := 69) X0.here hx (hb hby d1_68) rfl rfl ?_
  refine Win.go (fun _ k => X0.ldc2Long hx hown (mvT hZ (hw _ (List.mem_of_getElem? (i := 8) rfl))) (g := (mkF m 69 #[.val (.ref a), .val (.long (t1 ^^^ (XT.ushrL t1 (33 : Int32)))), .second, .val (.ref a), .val (.int (3 : Int32)), .val (.int (3 : Int32)), .val (.int v2)] [(.long (t1 ^^^ (XT.ushrL t1 (33 : Int32))))])) rfl (hb hby d1_69) _ k) ?_
  show Win p.tables e below _ (s₁.setTop (mkF m 72 #[.val (.ref a), .val (.long (t1 ^^^ (XT.ushrL t1 (33 : Int32)))), .second, .val (.ref a), .val (.int (3 : Int32)), .val (.int (3 : Int32)), .val (.int v2)] [(.long (-4265267296055464877 : Int64)), (.long (t1 ^^^ (XT.ushrL t1 (33 : Int32))))]))
  refine s_lmul (pc' := 73) X0.here hx (hb hby d1_72) rfl ?_
  refine s_lstoreN (pc' := 74) (l' := #[.val (.ref a), .val (.long ((t1 ^^^ (XT.ushrL t1 (33 : Int32))) * (-4265267296055464877 : Int64))), .second, .val (.ref a), .val (.int (3 : Int32)), .val (.int (3 : Int32)), .val (.int v2)]) X0.here hx (hb hby d1_73) rfl rfl ?_
  generalize ht2 : ((t1 ^^^ (XT.ushrL t1 (33 : Int32))) * (-4265267296055464877 : Int64)) = t2
  show Win p.tables e below _ (s₁.setTop (mkF m 74 #[.val (.ref a), .val (.long t2), .second, .val (.ref a), .val (.int (3 : Int32)), .val (.int (3 : Int32)), .val (.int v2)] []))
  refine s_lloadN (pc' := 75) X0.here hx (hb hby d1_74) rfl rfl ?_
  refine s_lloadN (pc' := 76) X0.here hx (hb hby d1_75) rfl rfl ?_
  refine s_bipush (pc' := 78) (z := (33 : Int32)) X0.here hx (hb hby d1_76) rfl rfl ?_
  refine Win.go (fun _ k => XT.lushr X0.here hx rfl (hb hby d1_78) rfl k) ?_
  show Win p.tables e below _ (s₁.setTop (mkF m 79 #[.val (.ref a), .val (.long t2), .second, .val (.ref a), .val (.int (3 : Int32)), .val (.int (3 : Int32)), .val (.int v2)] [(.long (XT.ushrL t2 (33 : Int32))), (.long t2)]))
  refine s_lxor (pc' := 80) X0.here hx (hb hby d1_79) rfl ?_
  refine s_lstoreN (pc' := 81) (l' := #[.val (.ref a), .val (.long (t2 ^^^ (XT.ushrL t2 (33 : Int32)))), .second, .val (.ref a), .val (.int (3 : Int32)), .val (.int (3 : Int32)), .val (.int v2)]) X0.here hx (hb hby d1_80) rfl rfl ?_
  refine s_lloadN (pc' := 82) X0.here hx (hb hby d1_81) rfl rfl ?_
  refine winL X0 hx hlk e0 Bd.returns (hb hby d1_82) (by decide) (by decide) ?_
  exact ⟨Nf, rfl, by rw [← ht2, ← ht1, ← hs2, ← hs1, ← hs0]; rfl⟩
theorem ef_1_4 (m : MethodId) (a : Addr) : entryFrame m #[(.ref a)] 7 = mkF m 0 #[.val (.ref a), .unset, .unset, .unset, .unset, .unset, .unset] [] := by first | (simp [entryFrame, mkF, argsToLocals, Value.category]; done) | rfl
def Q1_4 (Z : State) (a : Addr) (kk : ClassId) (v0 : Int32) (v1 : Int32) (v2 : Int32) (v3 : Int32) (h0 : Heap) (n0 : Nat) (v : Option Value) (h : Heap) (L : List Loc) : Prop := Fr n0 L ∧ h = h0 ∧ v = some (.long (hmix (hstep (hstep (hstep (hstep (-3750763034362895579 : Int64) v0) v1) v2) v3)))
set_option maxRecDepth 65536 in
set_option maxHeartbeats 40000000 in
theorem rm1_4 (l : Launch) (Z : State) (a0 : Array Value) (hw : ∀ d ∈ tables_1, d.before a0 Z = true) (ws : List Jvm.Cond) (a : Addr) (kk : ClassId) (v0 : Int32) (v1 : Int32) (v2 : Int32) (v3 : Int32) (h0 : Heap) (n0 : Nat) (Zs : n0 ≤ h0.size) (V_a : Arv Z h0 a kk .byte (4 : Int32) [(.int v0), (.int v1), (.int v2), (.int v3)] (.int (0 : Int32))) :
    MetFree l (⟨"com/example/sextant/sextant/store/Dictionary", "hash", "([B)J"⟩ : MethodName) (head1 (Jvm.Cond.code (⟨"com/example/sextant/sextant/store/Dictionary", "hash", "([B)J"⟩ : MethodName) prog_75_method_21_code 7 (some .long) :: ws) ({ frames := 0, cells := 0, slots := 0, locals := 0 } : Room)) (fun as' U => as' = #[(.ref a)] ∧ Z.Warmed39 U.vm ∧ U.heap = h0) (fun _ _ _ _ _ => True) (fun _ U o U' => ∃ v L, o = .returned v ∧ Q1_4 Z a kk v0 v1 v2 v3 h0 n0 v U'.heap L ∧ FrameEnd U o U' L ({ frames := 0, cells := 0, slots := 0, locals := 0 } : Room).cells ({ frames := 0, cells := 0, slots := 0, locals := 0 } : Room).slots) := by
  refine MetFree.of_bodySF (plainFor_of_name pn_1) hisR ?_
  intro p e s m args below meth c s₁ Bd hml0 hP hK
  obtain ⟨rfl, hZ, hh⟩ := hP
  have hx := Bd.exec
  have hby := Bd.bytes
  have hml : c.maxLocals = 7 := hml0
  have hown : s.vm.findClass "com/example/sextant/sextant/store/Dictionary" = some m.cls := findClass_of_methodNamed Bd.named
  have hnm := (name_of_methodNamed Bd.named Bd.method).1
  have hlk : meth.locks = false := Bd.notSynchronized
  have X0 : Stand p l e ({ frames := 0, cells := 0, slots := 0, locals := 0 } : Room) s m #[(.ref a)] below meth c s₁ [] 0 0 := Stand.of_body Bd
  have e0 : s₁.heap = h0 := by rw [← hh, Bd.state]; rfl
  have Nf := Fr.nil n0
  refine (?_ : Win p.tables e below (PostQ s (Q1_4 Z a kk v0 v1 v2 v3 h0 n0) ({ frames := 0, cells := 0, slots := 0, locals := 0 } : Room).cells ({ frames := 0, cells := 0, slots := 0, locals := 0 } : Room).slots) (s₁.setTop (entryFrame m #[(.ref a)] 7)))
  rw [ef_1_4]
  have lt_a : a < h0.size := V_a.lt
  show Win p.tables e below _ (s₁.setTop (mkF m 0 #[.val (.ref a), .unset, .unset, .unset, .unset, .unset, .unset] []))
  refine Win.go (fun _ k => X0.ldc2Long hx hown (mvT hZ (hw _ (List.mem_of_getElem? (i := 6) rfl))) (g := (mkF m 0 #[.val (.ref a), .unset, .unset, .unset, .unset, .unset, .unset] [])) rfl (hb hby d1_0) _ k) ?_
  show Win p.tables e below _ (s₁.setTop (mkF m 3 #[.val (.ref a), .unset, .unset, .unset, .unset, .unset, .unset] [(.long (-3750763034362895579 : Int64))]))
  refine s_lstoreN (pc' := 4) (l' := #[.val (.ref a), .val (.long (-3750763034362895579 : Int64)), .second, .unset, .unset, .unset, .unset]) X0.here hx (hb hby d1_3) rfl rfl ?_
  refine s_aloadN (pc' := 5) X0.here hx (hb hby d1_4) rfl rfl rfl ?_
  refine s_astoreN (pc' := 6) (l' := #[.val (.ref a), .val (.long (-3750763034362895579 : Int64)), .second, .val (.ref a), .unset, .unset, .unset]) X0.here hx (hb hby d1_5) rfl rfl rfl ?_
  refine s_aloadN (pc' := 7) X0.here hx (hb hby d1_6) rfl rfl rfl ?_
  obtain ⟨cl_11, Ar_11, q_11, S_11, N_11, H_11, G_11⟩ := id V_a
  refine Win.go (fun _ k => X0.arraylength hx (by rw [e0]; exact Ar_11.1) (State.isArrayOf_alike hZ.alike Ar_11.2.1) (g := (mkF m 7 #[.val (.ref a), .val (.long (-3750763034362895579 : Int64)), .second, .val (.ref a), .unset, .unset, .unset] [(.ref a)])) rfl rfl (hb hby d1_7) _ k) ?_
  rw [len_of S_11 N_11]
  clear Ar_11 q_11 S_11 N_11 H_11 G_11
  show Win p.tables e below _ (s₁.setTop (mkF m 8 #[.val (.ref a), .val (.long (-3750763034362895579 : Int64)), .second, .val (.ref a), .unset, .unset, .unset] [(.int (4 : Int32))]))
  refine s_istore (pc' := 10) (l' := #[.val (.ref a), .val (.long (-3750763034362895579 : Int64)), .second, .val (.ref a), .val (.int (4 : Int32)), .unset, .unset]) X0.here hx (hb hby d1_8) rfl rfl ?_
  refine s_iconst (pc' := 11) (z := (0 : Int32)) X0.here hx (hb hby d1_10) rfl rfl ?_
  refine s_istore (pc' := 13) (l' := #[.val (.ref a), .val (.long (-3750763034362895579 : Int64)), .second, .val (.ref a), .val (.int (4 : Int32)), .val (.int (0 : Int32)), .unset]) X0.here hx (hb hby d1_11) rfl rfl ?_
  refine s_iload (pc' := 15) X0.here hx (hb hby d1_13) rfl rfl ?_
  refine s_iload (pc' := 17) X0.here hx (hb hby d1_15) rfl rfl ?_
  refine s_icmpNo (pc' := 20) X0.here hx (hb hby d1_17) rfl (tltI (x := (0 : Int32)) (y := (4 : Int32)) (by decide)).2.1 ?_
  refine s_aloadN (pc' := 21) X0.here hx (hb hby d1_20) rfl rfl rfl ?_
  refine s_iload (pc' := 23) X0.here hx (hb hby d1_21) rfl rfl ?_
  obtain ⟨cl_12, Ar_12, q_12, S_12, N_12, H_12, G_12⟩ := id V_a
  have hi_12 : ¬ ((0 : Int32) < 0 ∨ cl_12.slots.size ≤ ((0 : Int32)).toNatClampNeg) := inb_of S_12 ⟨by decide, by decide⟩
  refine Win.go (fun _ k => X0.baloadBytes hx (j := (0 : Int32)) (v := (.int v0)) (by rw [e0]; exact Ar_12.1) (State.isArrayOf_alike hZ.alike Ar_12.2.1) Ar_12.2.2 hi_12 (H_12.at hi_12 rfl) (g := (mkF m 23 #[.val (.ref a), .val (.long (-3750763034362895579 : Int64)), .second, .val (.ref a), .val (.int (4 : Int32)), .val (.int (0 : Int32)), .unset] [(.int (0 : Int32)), (.ref a)])) rfl rfl (hb hby d1_23) _ k) ?_
  show Win p.tables e below _ (s₁.setTop (mkF m 24 #[.val (.ref a), .val (.long (-3750763034362895579 : Int64)), .second, .val (.ref a), .val (.int (4 : Int32)), .val (.int (0 : Int32)), .unset] [(.int v0)]))
  clear Ar_12 q_12 S_12 N_12 H_12 G_12 hi_12
  refine s_istore (pc' := 26) (l' := #[.val (.ref a), .val (.long (-3750763034362895579 : Int64)), .second, .val (.ref a), .val (.int (4 : Int32)), .val (.int (0 : Int32)), .val (.int v0)]) X0.here hx (hb hby d1_24) rfl rfl ?_
  refine s_lloadN (pc' := 27) X0.here hx (hb hby d1_26) rfl rfl ?_
  refine s_iload (pc' := 29) X0.here hx (hb hby d1_27) rfl rfl ?_
  refine s_sipush (pc' := 32) (z := (255 : Int32)) X0.here hx (hb hby d1_29) rfl rfl ?_
  refine s_iand (pc' := 33) X0.here hx (hb hby d1_32) rfl ?_
  refine Win.go (fun _ k => XS.i2l X0.here hx rfl (hb hby d1_33) rfl k) ?_
  show Win p.tables e below _ (s₁.setTop (mkF m 34 #[.val (.ref a), .val (.long (-3750763034362895579 : Int64)), .second, .val (.ref a), .val (.int (4 : Int32)), .val (.int (0 : Int32)), .val (.int v0)] [(.long ((v0 &&& (255 : Int32)).toInt64)), (.long (-3750763034362895579 : Int64))]))
  refine s_lxor (pc' := 35) X0.here hx (hb hby d1_34) rfl ?_
  refine s_lstoreN (pc' := 36) (l' := #[.val (.ref a), .val (.long ((-3750763034362895579 : Int64) ^^^ ((v0 &&& (255 : Int32)).toInt64))), .second, .val (.ref a), .val (.int (4 : Int32)), .val (.int (0 : Int32)), .val (.int v0)]) X0.here hx (hb hby d1_35) rfl rfl ?_
  refine s_lloadN (pc' := 37) X0.here hx (hb hby d1_36) rfl rfl ?_
  refine Win.go (fun _ k => X0.ldc2Long hx hown (mvT hZ (hw _ (List.mem_of_getElem? (i := 18) rfl))) (g := (mkF m 37 #[.val (.ref a), .val (.long ((-3750763034362895579 : Int64) ^^^ ((v0 &&& (255 : Int32)).toInt64))), .second, .val (.ref a), .val (.int (4 : Int32)), .val (.int (0 : Int32)), .val (.int v0)] [(.long ((-3750763034362895579 : Int64) ^^^ ((v0 &&& (255 : Int32)).toInt64)))])) rfl (hb hby d1_37) _ k) ?_
  show Win p.tables e below _ (s₁.setTop (mkF m 40 #[.val (.ref a), .val (.long ((-3750763034362895579 : Int64) ^^^ ((v0 &&& (255 : Int32)).toInt64))), .second, .val (.ref a), .val (.int (4 : Int32)), .val (.int (0 : Int32)), .val (.int v0)] [(.long (1099511628211 : Int64)), (.long ((-3750763034362895579 : Int64) ^^^ ((v0 &&& (255 : Int32)).toInt64)))]))
  refine s_lmul (pc' := 41) X0.here hx (hb hby d1_40) rfl ?_
  refine s_lstoreN (pc' := 42) (l' := #[.val (.ref a), .val (.long (((-3750763034362895579 : Int64) ^^^ ((v0 &&& (255 : Int32)).toInt64)) * (1099511628211 : Int64))), .second, .val (.ref a), .val (.int (4 : Int32)), .val (.int (0 : Int32)), .val (.int v0)]) X0.here hx (hb hby d1_41) rfl rfl ?_
  generalize hs0 : (((-3750763034362895579 : Int64) ^^^ ((v0 &&& (255 : Int32)).toInt64)) * (1099511628211 : Int64)) = s0
  show Win p.tables e below _ (s₁.setTop (mkF m 42 #[.val (.ref a), .val (.long s0), .second, .val (.ref a), .val (.int (4 : Int32)), .val (.int (0 : Int32)), .val (.int v0)] []))
  refine Win.go (fun _ k => XS.iinc X0.here hx rfl (hb hby d1_42) rfl (l' := #[.val (.ref a), .val (.long s0), .second, .val (.ref a), .val (.int (4 : Int32)), .val (.int (1 : Int32)), .val (.int v0)]) rfl k) ?_
  show Win p.tables e below _ (s₁.setTop (mkF m 45 #[.val (.ref a), .val (.long s0), .second, .val (.ref a), .val (.int (4 : Int32)), .val (.int (1 : Int32)), .val (.int v0)] []))
  refine s_goto (pc' := 13) X0.here hx (hb hby d1_45) (by decide) (by decide) ?_
  refine s_iload (pc' := 15) X0.here hx (hb hby d1_13) rfl rfl ?_
  refine s_iload (pc' := 17) X0.here hx (hb hby d1_15) rfl rfl ?_
  refine s_icmpNo (pc' := 20) X0.here hx (hb hby d1_17) rfl (tltI (x := (1 : Int32)) (y := (4 : Int32)) (by decide)).2.1 ?_
  refine s_aloadN (pc' := 21) X0.here hx (hb hby d1_20) rfl rfl rfl ?_
  refine s_iload (pc' := 23) X0.here hx (hb hby d1_21) rfl rfl ?_
  obtain ⟨cl_13, Ar_13, q_13, S_13, N_13, H_13, G_13⟩ := id V_a
  have hi_13 : ¬ ((1 : Int32) < 0 ∨ cl_13.slots.size ≤ ((1 : Int32)).toNatClampNeg) := inb_of S_13 ⟨by decide, by decide⟩
  refine Win.go (fun _ k => X0.baloadBytes hx (j := (1 : Int32)) (v := (.int v1)) (by rw [e0]; exact Ar_13.1) (State.isArrayOf_alike hZ.alike Ar_13.2.1) Ar_13.2.2 hi_13 (H_13.at hi_13 rfl) (g := (mkF m 23 #[.val (.ref a), .val (.long s0), .second, .val (.ref a), .val (.int (4 : Int32)), .val (.int (1 : Int32)), .val (.int v0)] [(.int (1 : Int32)), (.ref a)])) rfl rfl (hb hby d1_23) _ k) ?_
  show Win p.tables e below _ (s₁.setTop (mkF m 24 #[.val (.ref a), .val (.long s0), .second, .val (.ref a), .val (.int (4 : Int32)), .val (.int (1 : Int32)), .val (.int v0)] [(.int v1)]))
  clear Ar_13 q_13 S_13 N_13 H_13 G_13 hi_13
  refine s_istore (pc' := 26) (l' := #[.val (.ref a), .val (.long s0), .second, .val (.ref a), .val (.int (4 : Int32)), .val (.int (1 : Int32)), .val (.int v1)]) X0.here hx (hb hby d1_24) rfl rfl ?_
  refine s_lloadN (pc' := 27) X0.here hx (hb hby d1_26) rfl rfl ?_
  refine s_iload (pc' := 29) X0.here hx (hb hby d1_27) rfl rfl ?_
  refine s_sipush (pc' := 32) (z := (255 : Int32)) X0.here hx (hb hby d1_29) rfl rfl ?_
  refine s_iand (pc' := 33) X0.here hx (hb hby d1_32) rfl ?_
  refine Win.go (fun _ k => XS.i2l X0.here hx rfl (hb hby d1_33) rfl k) ?_
  show Win p.tables e below _ (s₁.setTop (mkF m 34 #[.val (.ref a), .val (.long s0), .second, .val (.ref a), .val (.int (4 : Int32)), .val (.int (1 : Int32)), .val (.int v1)] [(.long ((v1 &&& (255 : Int32)).toInt64)), (.long s0)]))
  refine s_lxor (pc' := 35) X0.here hx (hb hby d1_34) rfl ?_
  refine s_lstoreN (pc' := 36) (l' := #[.val (.ref a), .val (.long (s0 ^^^ ((v1 &&& (255 : Int32)).toInt64))), .second, .val (.ref a), .val (.int (4 : Int32)), .val (.int (1 : Int32)), .val (.int v1)]) X0.here hx (hb hby d1_35) rfl rfl ?_
  refine s_lloadN (pc' := 37) X0.here hx (hb hby d1_36) rfl rfl ?_
  refine Win.go (fun _ k => X0.ldc2Long hx hown (mvT hZ (hw _ (List.mem_of_getElem? (i := 18) rfl))) (g := (mkF m 37 #[.val (.ref a), .val (.long (s0 ^^^ ((v1 &&& (255 : Int32)).toInt64))), .second, .val (.ref a), .val (.int (4 : Int32)), .val (.int (1 : Int32)), .val (.int v1)] [(.long (s0 ^^^ ((v1 &&& (255 : Int32)).toInt64)))])) rfl (hb hby d1_37) _ k) ?_
  show Win p.tables e below _ (s₁.setTop (mkF m 40 #[.val (.ref a), .val (.long (s0 ^^^ ((v1 &&& (255 : Int32)).toInt64))), .second, .val (.ref a), .val (.int (4 : Int32)), .val (.int (1 : Int32)), .val (.int v1)] [(.long (1099511628211 : Int64)), (.long (s0 ^^^ ((v1 &&& (255 : Int32)).toInt64)))]))
  refine s_lmul (pc' := 41) X0.here hx (hb hby d1_40) rfl ?_
  refine s_lstoreN (pc' := 42) (l' := #[.val (.ref a), .val (.long ((s0 ^^^ ((v1 &&& (255 : Int32)).toInt64)) * (1099511628211 : Int64))), .second, .val (.ref a), .val (.int (4 : Int32)), .val (.int (1 : Int32)), .val (.int v1)]) X0.here hx (hb hby d1_41) rfl rfl ?_
  generalize hs1 : ((s0 ^^^ ((v1 &&& (255 : Int32)).toInt64)) * (1099511628211 : Int64)) = s1
  show Win p.tables e below _ (s₁.setTop (mkF m 42 #[.val (.ref a), .val (.long s1), .second, .val (.ref a), .val (.int (4 : Int32)), .val (.int (1 : Int32)), .val (.int v1)] []))
  refine Win.go (fun _ k => XS.iinc X0.here hx rfl (hb hby d1_42) rfl (l' := #[.val (.ref a), .val (.long s1), .second, .val (.ref a), .val (.int (4 : Int32)), .val (.int (2 : Int32)), .val (.int v1)]) rfl k) ?_
  show Win p.tables e below _ (s₁.setTop (mkF m 45 #[.val (.ref a), .val (.long s1), .second, .val (.ref a), .val (.int (4 : Int32)), .val (.int (2 : Int32)), .val (.int v1)] []))
  refine s_goto (pc' := 13) X0.here hx (hb hby d1_45) (by decide) (by decide) ?_
  refine s_iload (pc' := 15) X0.here hx (hb hby d1_13) rfl rfl ?_
  refine s_iload (pc' := 17) X0.here hx (hb hby d1_15) rfl rfl ?_
  refine s_icmpNo (pc' := 20) X0.here hx (hb hby d1_17) rfl (tltI (x := (2 : Int32)) (y := (4 : Int32)) (by decide)).2.1 ?_
  refine s_aloadN (pc' := 21) X0.here hx (hb hby d1_20) rfl rfl rfl ?_
  refine s_iload (pc' := 23) X0.here hx (hb hby d1_21) rfl rfl ?_
  obtain ⟨cl_14, Ar_14, q_14, S_14, N_14, H_14, G_14⟩ := id V_a
  have hi_14 : ¬ ((2 : Int32) < 0 ∨ cl_14.slots.size ≤ ((2 : Int32)).toNatClampNeg) := inb_of S_14 ⟨by decide, by decide⟩
  refine Win.go (fun _ k => X0.baloadBytes hx (j := (2 : Int32)) (v := (.int v2)) (by rw [e0]; exact Ar_14.1) (State.isArrayOf_alike hZ.alike Ar_14.2.1) Ar_14.2.2 hi_14 (H_14.at hi_14 rfl) (g := (mkF m 23 #[.val (.ref a), .val (.long s1), .second, .val (.ref a), .val (.int (4 : Int32)), .val (.int (2 : Int32)), .val (.int v1)] [(.int (2 : Int32)), (.ref a)])) rfl rfl (hb hby d1_23) _ k) ?_
  show Win p.tables e below _ (s₁.setTop (mkF m 24 #[.val (.ref a), .val (.long s1), .second, .val (.ref a), .val (.int (4 : Int32)), .val (.int (2 : Int32)), .val (.int v1)] [(.int v2)]))
  clear Ar_14 q_14 S_14 N_14 H_14 G_14 hi_14
  refine s_istore (pc' := 26) (l' := #[.val (.ref a), .val (.long s1), .second, .val (.ref a), .val (.int (4 : Int32)), .val (.int (2 : Int32)), .val (.int v2)]) X0.here hx (hb hby d1_24) rfl rfl ?_
  refine s_lloadN (pc' := 27) X0.here hx (hb hby d1_26) rfl rfl ?_
  refine s_iload (pc' := 29) X0.here hx (hb hby d1_27) rfl rfl ?_
  refine s_sipush (pc' := 32) (z := (255 : Int32)) X0.here hx (hb hby d1_29) rfl rfl ?_
  refine s_iand (pc' := 33) X0.here hx (hb hby d1_32) rfl ?_
  refine Win.go (fun _ k => XS.i2l X0.here hx rfl (hb hby d1_33) rfl k) ?_
  show Win p.tables e below _ (s₁.setTop (mkF m 34 #[.val (.ref a), .val (.long s1), .second, .val (.ref a), .val (.int (4 : Int32)), .val (.int (2 : Int32)), .val (.int v2)] [(.long ((v2 &&& (255 : Int32)).toInt64)), (.long s1)]))
  refine s_lxor (pc' := 35) X0.here hx (hb hby d1_34) rfl ?_
  refine s_lstoreN (pc' := 36) (l' := #[.val (.ref a), .val (.long (s1 ^^^ ((v2 &&& (255 : Int32)).toInt64))), .second, .val (.ref a), .val (.int (4 : Int32)), .val (.int (2 : Int32)), .val (.int v2)]) X0.here hx (hb hby d1_35) rfl rfl ?_
  refine s_lloadN (pc' := 37) X0.here hx (hb hby d1_36) rfl rfl ?_
  refine Win.go (fun _ k => X0.ldc2Long hx hown (mvT hZ (hw _ (List.mem_of_getElem? (i := 18) rfl))) (g := (mkF m 37 #[.val (.ref a), .val (.long (s1 ^^^ ((v2 &&& (255 : Int32)).toInt64))), .second, .val (.ref a), .val (.int (4 : Int32)), .val (.int (2 : Int32)), .val (.int v2)] [(.long (s1 ^^^ ((v2 &&& (255 : Int32)).toInt64)))])) rfl (hb hby d1_37) _ k) ?_
  show Win p.tables e below _ (s₁.setTop (mkF m 40 #[.val (.ref a), .val (.long (s1 ^^^ ((v2 &&& (255 : Int32)).toInt64))), .second, .val (.ref a), .val (.int (4 : Int32)), .val (.int (2 : Int32)), .val (.int v2)] [(.long (1099511628211 : Int64)), (.long (s1 ^^^ ((v2 &&& (255 : Int32)).toInt64)))]))
  refine s_lmul (pc' := 41) X0.here hx (hb hby d1_40) rfl ?_
  refine s_lstoreN (pc' := 42) (l' := #[.val (.ref a), .val (.long ((s1 ^^^ ((v2 &&& (255 : Int32)).toInt64)) * (1099511628211 : Int64))), .second, .val (.ref a), .val (.int (4 : Int32)), .val (.int (2 : Int32)), .val (.int v2)]) X0.here hx (hb hby d1_41) rfl rfl ?_
  generalize hs2 : ((s1 ^^^ ((v2 &&& (255 : Int32)).toInt64)) * (1099511628211 : Int64)) = s2
  show Win p.tables e below _ (s₁.setTop (mkF m 42 #[.val (.ref a), .val (.long s2), .second, .val (.ref a), .val (.int (4 : Int32)), .val (.int (2 : Int32)), .val (.int v2)] []))
  refine Win.go (fun _ k => XS.iinc X0.here hx rfl (hb hby d1_42) rfl (l' := #[.val (.ref a), .val (.long s2), .second, .val (.ref a), .val (.int (4 : Int32)), .val (.int (3 : Int32)), .val (.int v2)]) rfl k) ?_
  show Win p.tables e below _ (s₁.setTop (mkF m 45 #[.val (.ref a), .val (.long s2), .second, .val (.ref a), .val (.int (4 : Int32)), .val (.int (3 : Int32)), .val (.int v2)] []))
  refine s_goto (pc' := 13) X0.here hx (hb hby d1_45) (by decide) (by decide) ?_
  refine s_iload (pc' := 15) X0.here hx (hb hby d1_13) rfl rfl ?_
  refine s_iload (pc' := 17) X0.here hx (hb hby d1_15) rfl rfl ?_
  refine s_icmpNo (pc' := 20) X0.here hx (hb hby d1_17) rfl (tltI (x := (3 : Int32)) (y := (4 : Int32)) (by decide)).2.1 ?_
  refine s_aloadN (pc' := 21) X0.here hx (hb hby d1_20) rfl rfl rfl ?_
  refine s_iload (pc' := 23) X0.here hx (hb hby d1_21) rfl rfl ?_
  obtain ⟨cl_15, Ar_15, q_15, S_15, N_15, H_15, G_15⟩ := id V_a
  have hi_15 : ¬ ((3 : Int32) < 0 ∨ cl_15.slots.size ≤ ((3 : Int32)).toNatClampNeg) := inb_of S_15 ⟨by decide, by decide⟩
  refine Win.go (fun _ k => X0.baloadBytes hx (j := (3 : Int32)) (v := (.int v3)) (by rw [e0]; exact Ar_15.1) (State.isArrayOf_alike hZ.alike Ar_15.2.1) Ar_15.2.2 hi_15 (H_15.at hi_15 rfl) (g := (mkF m 23 #[.val (.ref a), .val (.long s2), .second, .val (.ref a), .val (.int (4 : Int32)), .val (.int (3 : Int32)), .val (.int v2)] [(.int (3 : Int32)), (.ref a)])) rfl rfl (hb hby d1_23) _ k) ?_
  show Win p.tables e below _ (s₁.setTop (mkF m 24 #[.val (.ref a), .val (.long s2), .second, .val (.ref a), .val (.int (4 : Int32)), .val (.int (3 : Int32)), .val (.int v2)] [(.int v3)]))
  clear Ar_15 q_15 S_15 N_15 H_15 G_15 hi_15
  refine s_istore (pc' := 26) (l' := #[.val (.ref a), .val (.long s2), .second, .val (.ref a), .val (.int (4 : Int32)), .val (.int (3 : Int32)), .val (.int v3)]) X0.here hx (hb hby d1_24) rfl rfl ?_
  refine s_lloadN (pc' := 27) X0.here hx (hb hby d1_26) rfl rfl ?_
  refine s_iload (pc' := 29) X0.here hx (hb hby d1_27) rfl rfl ?_
  refine s_sipush (pc' := 32) (z := (255 : Int32)) X0.here hx (hb hby d1_29) rfl rfl ?_
  refine s_iand (pc' := 33) X0.here hx (hb hby d1_32) rfl ?_
  refine Win.go (fun _ k => XS.i2l X0.here hx rfl (hb hby d1_33) rfl k) ?_
  show Win p.tables e below _ (s₁.setTop (mkF m 34 #[.val (.ref a), .val (.long s2), .second, .val (.ref a), .val (.int (4 : Int32)), .val (.int (3 : Int32)), .val (.int v3)] [(.long ((v3 &&& (255 : Int32)).toInt64)), (.long s2)]))
  refine s_lxor (pc' := 35) X0.here hx (hb hby d1_34) rfl ?_
  refine s_lstoreN (pc' := 36) (l' := #[.val (.ref a), .val (.long (s2 ^^^ ((v3 &&& (255 : Int32)).toInt64))), .second, .val (.ref a), .val (.int (4 : Int32)), .val (.int (3 : Int32)), .val (.int v3)]) X0.here hx (hb hby d1_35) rfl rfl ?_
  refine s_lloadN (pc' := 37) X0.here hx (hb hby d1_36) rfl rfl ?_
  refine Win.go (fun _ k => X0.ldc2Long hx hown (mvT hZ (hw _ (List.mem_of_getElem? (i := 18) rfl))) (g := (mkF m 37 #[.val (.ref a), .val (.long (s2 ^^^ ((v3 &&& (255 : Int32)).toInt64))), .second, .val (.ref a), .val (.int (4 : Int32)), .val (.int (3 : Int32)), .val (.int v3)] [(.long (s2 ^^^ ((v3 &&& (255 : Int32)).toInt64)))])) rfl (hb hby d1_37) _ k) ?_
  show Win p.tables e below _ (s₁.setTop (mkF m 40 #[.val (.ref a), .val (.long (s2 ^^^ ((v3 &&& (255 : Int32)).toInt64))), .second, .val (.ref a), .val (.int (4 : Int32)), .val (.int (3 : Int32)), .val (.int v3)] [(.long (1099511628211 : Int64)), (.long (s2 ^^^ ((v3 &&& (255 : Int32)).toInt64)))]))
  refine s_lmul (pc' := 41) X0.here hx (hb hby d1_40) rfl ?_
  refine s_lstoreN (pc' := 42) (l' := #[.val (.ref a), .val (.long ((s2 ^^^ ((v3 &&& (255 : Int32)).toInt64)) * (1099511628211 : Int64))), .second, .val (.ref a), .val (.int (4 : Int32)), .val (.int (3 : Int32)), .val (.int v3)]) X0.here hx (hb hby d1_41) rfl rfl ?_
  generalize hs3 : ((s2 ^^^ ((v3 &&& (255 : Int32)).toInt64)) * (1099511628211 : Int64)) = s3
  show Win p.tables e below _ (s₁.setTop (mkF m 42 #[.val (.ref a), .val (.long s3), .second, .val (.ref a), .val (.int (4 : Int32)), .val (.int (3 : Int32)), .val (.int v3)] []))
  refine Win.go (fun _ k => XS.iinc X0.here hx rfl (hb hby d1_42) rfl (l' := #[.val (.ref a), .val (.long s3), .second, .val (.ref a), .val (.int (4 : Int32)), .val (.int (4 : Int32)), .val (.int v3)]) rfl k) ?_
  show Win p.tables e below _ (s₁.setTop (mkF m 45 #[.val (.ref a), .val (.long s3), .second, .val (.ref a), .val (.int (4 : Int32)), .val (.int (4 : Int32)), .val (.int v3)] []))
  refine s_goto (pc' := 13) X0.here hx (hb hby d1_45) (by decide) (by decide) ?_
  refine s_iload (pc' := 15) X0.here hx (hb hby d1_13) rfl rfl ?_
  refine s_iload (pc' := 17) X0.here hx (hb hby d1_15) rfl rfl ?_
  refine s_icmpYes (pc' := 48) X0.here hx (hb hby d1_17) (fltI (x := (4 : Int32)) (y := (4 : Int32)) (by decide)).2.1 (by decide) (by decide) ?_
  refine s_lloadN (pc' := 49) X0.here hx (hb hby d1_48) rfl rfl ?_
  refine s_lloadN (pc' := 50) X0.here hx (hb hby d1_49) rfl rfl ?_
  refine s_bipush (pc' := 52) (z := (33 : Int32)) X0.here hx (hb hby d1_50) rfl rfl ?_
  refine Win.go (fun _ k => XT.lushr X0.here hx rfl (hb hby d1_52) rfl k) ?_
  show Win p.tables e below _ (s₁.setTop (mkF m 53 #[.val (.ref a), .val (.long s3), .second, .val (.ref a), .val (.int (4 : Int32)), .val (.int (4 : Int32)), .val (.int v3)] [(.long (XT.ushrL s3 (33 : Int32))), (.long s3)]))
  refine s_lxor (pc' := 54) X0.here hx (hb hby d1_53) rfl ?_
  refine s_lstoreN (pc' := 55) (l' := #[.val (.ref a), .val (.long (s3 ^^^ (XT.ushrL s3 (33 : Int32)))), .second, .val (.ref a), .val (.int (4 : Int32)), .val (.int (4 : Int32)), .val (.int v3)]) X0.here hx (hb hby d1_54) rfl rfl ?_
  refine s_lloadN (pc' := 56) X0.here hx (hb hby d1_55) rfl rfl ?_
  refine Win.go (fun _ k => X0.ldc2Long hx hown (mvT hZ (hw _ (List.mem_of_getElem? (i := 7) rfl))) (g := (mkF m 56 #[.val (.ref a), .val (.long (s3 ^^^ (XT.ushrL s3 (33 : Int32)))), .second, .val (.ref a), .val (.int (4 : Int32)), .val (.int (4 : Int32)), .val (.int v3)] [(.long (s3 ^^^ (XT.ushrL s3 (33 : Int32))))])) rfl (hb hby d1_56) _ k) ?_
  show Win p.tables e below _ (s₁.setTop (mkF m 59 #[.val (.ref a), .val (.long (s3 ^^^ (XT.ushrL s3 (33 : Int32)))), .second, .val (.ref a), .val (.int (4 : Int32)), .val (.int (4 : Int32)), .val (.int v3)] [(.long (-49064778989728563 : Int64)), (.long (s3 ^^^ (XT.ushrL s3 (33 : Int32))))]))
  refine s_lmul (pc' := 60) X0.here hx (hb hby d1_59) rfl ?_
  refine s_lstoreN (pc' := 61) (l' := #[.val (.ref a), .val (.long ((s3 ^^^ (XT.ushrL s3 (33 : Int32))) * (-49064778989728563 : Int64))), .second, .val (.ref a), .val (.int (4 : Int32)), .val (.int (4 : Int32)), .val (.int v3)]) X0.here hx (hb hby d1_60) rfl rfl ?_
  generalize ht1 : ((s3 ^^^ (XT.ushrL s3 (33 : Int32))) * (-49064778989728563 : Int64)) = t1
  show Win p.tables e below _ (s₁.setTop (mkF m 61 #[.val (.ref a), .val (.long t1), .second, .val (.ref a), .val (.int (4 : Int32)), .val (.int (4 : Int32)), .val (.int v3)] []))
  refine s_lloadN (pc' := 62) X0.here hx (hb hby d1_61) rfl rfl ?_
  refine s_lloadN (pc' := 63) X0.here hx (hb hby d1_62) rfl rfl ?_
  refine s_bipush (pc' := 65) (z := (33 : Int32)) X0.here hx (hb hby d1_63) rfl rfl ?_
  refine Win.go (fun _ k => XT.lushr X0.here hx rfl (hb hby d1_65) rfl k) ?_
  show Win p.tables e below _ (s₁.setTop (mkF m 66 #[.val (.ref a), .val (.long t1), .second, .val (.ref a), .val (.int (4 : Int32)), .val (.int (4 : Int32)), .val (.int v3)] [(.long (XT.ushrL t1 (33 : Int32))), (.long t1)]))
  refine s_lxor (pc' := 67) X0.here hx (hb hby d1_66) rfl ?_
  refine s_lstoreN (pc' := 68) (l' := #[.val (.ref a), .val (.long (t1 ^^^ (XT.ushrL t1 (33 : Int32)))), .second, .val (.ref a), .val (.int (4 : Int32)), .val (.int (4 : Int32)), .val (.int v3)]) X0.here hx (hb hby d1_67) rfl rfl ?_
  refine s_lloadN (pc' := 69) X0.here hx (hb hby d1_68) rfl rfl ?_
  refine Win.go (fun _ k => X0.ldc2Long hx hown (mvT hZ (hw _ (List.mem_of_getElem? (i := 8) rfl))) (g := (mkF m 69 #[.val (.ref a), .val (.long (t1 ^^^ (XT.ushrL t1 (33 : Int32)))), .second, .val (.ref a), .val (.int (4 : Int32)), .val (.int (4 : Int32)), .val (.int v3)] [(.long (t1 ^^^ (XT.ushrL t1 (33 : Int32))))])) rfl (hb hby d1_69) _ k) ?_
  show Win p.tables e below _ (s₁.setTop (mkF m 72 #[.val (.ref a), .val (.long (t1 ^^^ (XT.ushrL t1 (33 : Int32)))), .second, .val (.ref a), .val (.int (4 : Int32)), .val (.int (4 : Int32)), .val (.int v3)] [(.long (-4265267296055464877 : Int64)), (.long (t1 ^^^ (XT.ushrL t1 (33 : Int32))))]))
  refine s_lmul (pc' := 73) X0.here hx (hb hby d1_72) rfl ?_
  refine s_lstoreN (pc' := 74) (l' := #[.val (.ref a), .val (.long ((t1 ^^^ (XT.ushrL t1 (33 : Int32))) * (-4265267296055464877 : Int64))), .second, .val (.ref a), .val (.int (4 : Int32)), .val (.int (4 : Int32)), .val (.int v3)]) X0.here hx (hb hby d1_73) rfl rfl ?_
  generalize ht2 : ((t1 ^^^ (XT.ushrL t1 (33 : Int32))) * (-4265267296055464877 : Int64)) = t2
  show Win p.tables e below _ (s₁.setTop (mkF m 74 #[.val (.ref a), .val (.long t2), .second, .val (.ref a), .val (.int (4 : Int32)), .val (.int (4 : Int32)), .val (.int v3)] []))
  refine s_lloadN (pc' := 75) X0.here hx (hb hby d1_74) rfl rfl ?_
  refine s_lloadN (pc' := 76) X0.here hx (hb hby d1_75) rfl rfl ?_
  refine s_bipush (pc' := 78) (z := (33 : Int32)) X0.here hx (hb hby d1_76) rfl rfl ?_
  refine Win.go (fun _ k => XT.lushr X0.here hx rfl (hb hby d1_78) rfl k) ?_
  show Win p.tables e below _ (s₁.setTop (mkF m 79 #[.val (.ref a), .val (.long t2), .second, .val (.ref a), .val (.int (4 : Int32)), .val (.int (4 : Int32)), .val (.int v3)] [(.long (XT.ushrL t2 (33 : Int32))), (.long t2)]))
  refine s_lxor (pc' := 80) X0.here hx (hb hby d1_79) rfl ?_
  refine s_lstoreN (pc' := 81) (l' := #[.val (.ref a), .val (.long (t2 ^^^ (XT.ushrL t2 (33 : Int32)))), .second, .val (.ref a), .val (.int (4 : Int32)), .val (.int (4 : Int32)), .val (.int v3)]) X0.here hx (hb hby d1_80) rfl rfl ?_
  refine s_lloadN (pc' := 82) X0.here hx (hb hby d1_81) rfl rfl ?_
  refine winL X0 hx hlk e0 Bd.returns (hb hby d1_82) (by decide) (by decide) ?_
  exact ⟨Nf, rfl, by rw [← ht2, ← ht1, ← hs3, ← hs2, ← hs1, ← hs0]; rfl⟩
theorem d2_0 : decode method_2_code 0 = .ok (.lload_n 0, 1) := by decide +kernel
theorem d2_1 : decode method_2_code 1 = .ok (.lstore_n 2, 1) := by decide +kernel
theorem d2_2 : decode method_2_code 2 = .ok (.lload_n 2, 1) := by decide +kernel
theorem d2_3 : decode method_2_code 3 = .ok (.ldc2_w 7, 3) := by decide +kernel
theorem d2_6 : decode method_2_code 6 = .ok (.lload_n 0, 1) := by decide +kernel
theorem d2_7 : decode method_2_code 7 = .ok (.lload_n 2, 1) := by decide +kernel
theorem d2_8 : decode method_2_code 8 = .ok (.lmul, 1) := by decide +kernel
theorem d2_9 : decode method_2_code 9 = .ok (.lsub, 1) := by decide +kernel
theorem d2_10 : decode method_2_code 10 = .ok (.lmul, 1) := by decide +kernel
theorem d2_11 : decode method_2_code 11 = .ok (.lstore_n 2, 1) := by decide +kernel
theorem d2_12 : decode method_2_code 12 = .ok (.lload_n 2, 1) := by decide +kernel
theorem d2_13 : decode method_2_code 13 = .ok (.ldc2_w 7, 3) := by decide +kernel
theorem d2_16 : decode method_2_code 16 = .ok (.lload_n 0, 1) := by decide +kernel
theorem d2_17 : decode method_2_code 17 = .ok (.lload_n 2, 1) := by decide +kernel
theorem d2_18 : decode method_2_code 18 = .ok (.lmul, 1) := by decide +kernel
theorem d2_19 : decode method_2_code 19 = .ok (.lsub, 1) := by decide +kernel
theorem d2_20 : decode method_2_code 20 = .ok (.lmul, 1) := by decide +kernel
theorem d2_21 : decode method_2_code 21 = .ok (.lstore_n 2, 1) := by decide +kernel
theorem d2_22 : decode method_2_code 22 = .ok (.lload_n 2, 1) := by decide +kernel
theorem d2_23 : decode method_2_code 23 = .ok (.ldc2_w 7, 3) := by decide +kernel
theorem d2_26 : decode method_2_code 26 = .ok (.lload_n 0, 1) := by decide +kernel
theorem d2_27 : decode method_2_code 27 = .ok (.lload_n 2, 1) := by decide +kernel
theorem d2_28 : decode method_2_code 28 = .ok (.lmul, 1) := by decide +kernel
theorem d2_29 : decode method_2_code 29 = .ok (.lsub, 1) := by decide +kernel
theorem d2_30 : decode method_2_code 30 = .ok (.lmul, 1) := by decide +kernel
theorem d2_31 : decode method_2_code 31 = .ok (.lstore_n 2, 1) := by decide +kernel
theorem d2_32 : decode method_2_code 32 = .ok (.lload_n 2, 1) := by decide +kernel
theorem d2_33 : decode method_2_code 33 = .ok (.ldc2_w 7, 3) := by decide +kernel
theorem d2_36 : decode method_2_code 36 = .ok (.lload_n 0, 1) := by decide +kernel
theorem d2_37 : decode method_2_code 37 = .ok (.lload_n 2, 1) := by decide +kernel
theorem d2_38 : decode method_2_code 38 = .ok (.lmul, 1) := by decide +kernel
theorem d2_39 : decode method_2_code 39 = .ok (.lsub, 1) := by decide +kernel
theorem d2_40 : decode method_2_code 40 = .ok (.lmul, 1) := by decide +kernel
theorem d2_41 : decode method_2_code 41 = .ok (.lstore_n 2, 1) := by decide +kernel
theorem d2_42 : decode method_2_code 42 = .ok (.lload_n 2, 1) := by decide +kernel
theorem d2_43 : decode method_2_code 43 = .ok (.ldc2_w 7, 3) := by decide +kernel
theorem d2_46 : decode method_2_code 46 = .ok (.lload_n 0, 1) := by decide +kernel
theorem d2_47 : decode method_2_code 47 = .ok (.lload_n 2, 1) := by decide +kernel
theorem d2_48 : decode method_2_code 48 = .ok (.lmul, 1) := by decide +kernel
theorem d2_49 : decode method_2_code 49 = .ok (.lsub, 1) := by decide +kernel
theorem d2_50 : decode method_2_code 50 = .ok (.lmul, 1) := by decide +kernel
theorem d2_51 : decode method_2_code 51 = .ok (.lstore_n 2, 1) := by decide +kernel
theorem d2_52 : decode method_2_code 52 = .ok (.lload_n 2, 1) := by decide +kernel
theorem d2_53 : decode method_2_code 53 = .ok (.lreturn, 1) := by decide +kernel
theorem pn_2 : plainName "com/example/sextant/sextant/store/DictionaryHashPinLaw" = true := by first | (simp [plainName, overriddenIn]; done) | decide +kernel
theorem ef_2a (m : MethodId)  : entryFrame m #[(.long (-4265267296055464877 : Int64))] 4 = mkF m 0 #[.val (.long (-4265267296055464877 : Int64)), .second, .unset, .unset] [] := by first | (simp [entryFrame, mkF, argsToLocals, Value.category]; done) | rfl
def Q2a (Z : State)  (h0 : Heap) (n0 : Nat) (v : Option Value) (h : Heap) (L : List Loc) : Prop := Fr n0 L ∧ h = h0 ∧ v = some (.long (-7154897129451604005 : Int64))
set_option maxRecDepth 65536 in
set_option maxHeartbeats 40000000 in
theorem rm2a (l : Launch) (Z : State) (a0 : Array Value) (hw : ∀ d ∈ tables_1, d.before a0 Z = true) (ws : List Jvm.Cond)  (h0 : Heap) (n0 : Nat) (Zs : n0 ≤ h0.size) :
    MetFree l (⟨"com/example/sextant/sextant/store/DictionaryHashPinLaw", "inverse", "(J)J"⟩ : MethodName) (head1 (Jvm.Cond.code (⟨"com/example/sextant/sextant/store/DictionaryHashPinLaw", "inverse", "(J)J"⟩ : MethodName) method_2_code 4 (some .long) :: ws) ({ frames := 0, cells := 0, slots := 0, locals := 0 } : Room)) (fun as' U => as' = #[(.long (-4265267296055464877 : Int64))] ∧ Z.Warmed39 U.vm ∧ U.heap = h0) (fun _ _ _ _ _ => True) (fun _ U o U' => ∃ v L, o = .returned v ∧ Q2a Z  h0 n0 v U'.heap L ∧ FrameEnd U o U' L ({ frames := 0, cells := 0, slots := 0, locals := 0 } : Room).cells ({ frames := 0, cells := 0, slots := 0, locals := 0 } : Room).slots) := by
  refine MetFree.of_bodySF (plainFor_of_name pn_2) hisR ?_
  intro p e s m args below meth c s₁ Bd hml0 hP hK
  obtain ⟨rfl, hZ, hh⟩ := hP
  have hx := Bd.exec
  have hby := Bd.bytes
  have hml : c.maxLocals = 4 := hml0
  have hown : s.vm.findClass "com/example/sextant/sextant/store/DictionaryHashPinLaw" = some m.cls := findClass_of_methodNamed Bd.named
  have hnm := (name_of_methodNamed Bd.named Bd.method).1
  have hlk : meth.locks = false := Bd.notSynchronized
  have X0 : Stand p l e ({ frames := 0, cells := 0, slots := 0, locals := 0 } : Room) s m #[(.long (-4265267296055464877 : Int64))] below meth c s₁ [] 0 0 := Stand.of_body Bd
  have e0 : s₁.heap = h0 := by rw [← hh, Bd.state]; rfl
  have Nf := Fr.nil n0
  refine (?_ : Win p.tables e below (PostQ s (Q2a Z  h0 n0) ({ frames := 0, cells := 0, slots := 0, locals := 0 } : Room).cells ({ frames := 0, cells := 0, slots := 0, locals := 0 } : Room).slots) (s₁.setTop (entryFrame m #[(.long (-4265267296055464877 : Int64))] 4)))
  rw [ef_2a]
  show Win p.tables e below _ (s₁.setTop (mkF m 0 #[.val (.long (-4265267296055464877 : Int64)), .second, .unset, .unset] []))
  refine s_lloadN (pc' := 1) X0.here hx (hb hby d2_0) rfl rfl ?_
  refine s_lstoreN (pc' := 2) (l' := #[.val (.long (-4265267296055464877 : Int64)), .second, .val (.long (-4265267296055464877 : Int64)), .second]) X0.here hx (hb hby d2_1) rfl rfl ?_
  refine s_lloadN (pc' := 3) X0.here hx (hb hby d2_2) rfl rfl ?_
  refine Win.go (fun _ k => X0.ldc2Long hx hown (mvT hZ (hw _ (List.mem_of_getElem? (i := 14) rfl))) (g := (mkF m 3 #[.val (.long (-4265267296055464877 : Int64)), .second, .val (.long (-4265267296055464877 : Int64)), .second] [(.long (-4265267296055464877 : Int64))])) rfl (hb hby d2_3) _ k) ?_
  show Win p.tables e below _ (s₁.setTop (mkF m 6 #[.val (.long (-4265267296055464877 : Int64)), .second, .val (.long (-4265267296055464877 : Int64)), .second] [(.long (2 : Int64)), (.long (-4265267296055464877 : Int64))]))
  refine s_lloadN (pc' := 7) X0.here hx (hb hby d2_6) rfl rfl ?_
  refine s_lloadN (pc' := 8) X0.here hx (hb hby d2_7) rfl rfl ?_
  refine Win.go (fun _ k => XS.lmul X0.here hx rfl (hb hby d2_8) rfl k) ?_
  show Win p.tables e below _ (s₁.setTop (mkF m 9 #[.val (.long (-4265267296055464877 : Int64)), .second, .val (.long (-4265267296055464877 : Int64)), .second] [(.long (-6799198743298628887 : Int64)), (.long (2 : Int64)), (.long (-4265267296055464877 : Int64))]))
  refine Win.go (fun _ k => XS.lsub X0.here hx rfl (hb hby d2_9) rfl k) ?_
  show Win p.tables e below _ (s₁.setTop (mkF m 10 #[.val (.long (-4265267296055464877 : Int64)), .second, .val (.long (-4265267296055464877 : Int64)), .second] [(.long (6799198743298628889 : Int64)), (.long (-4265267296055464877 : Int64))]))
  refine Win.go (fun _ k => XS.lmul X0.here hx rfl (hb hby d2_10) rfl k) ?_
  show Win p.tables e below _ (s₁.setTop (mkF m 11 #[.val (.long (-4265267296055464877 : Int64)), .second, .val (.long (-4265267296055464877 : Int64)), .second] [(.long (7598929352186641179 : Int64))]))
  refine s_lstoreN (pc' := 12) (l' := #[.val (.long (-4265267296055464877 : Int64)), .second, .val (.long (7598929352186641179 : Int64)), .second]) X0.here hx (hb hby d2_11) rfl rfl ?_
  refine s_lloadN (pc' := 13) X0.here hx (hb hby d2_12) rfl rfl ?_
  refine Win.go (fun _ k => X0.ldc2Long hx hown (mvT hZ (hw _ (List.mem_of_getElem? (i := 14) rfl))) (g := (mkF m 13 #[.val (.long (-4265267296055464877 : Int64)), .second, .val (.long (7598929352186641179 : Int64)), .second] [(.long (7598929352186641179 : Int64))])) rfl (hb hby d2_13) _ k) ?_
  show Win p.tables e below _ (s₁.setTop (mkF m 16 #[.val (.long (-4265267296055464877 : Int64)), .second, .val (.long (7598929352186641179 : Int64)), .second] [(.long (2 : Int64)), (.long (7598929352186641179 : Int64))]))
  refine s_lloadN (pc' := 17) X0.here hx (hb hby d2_16) rfl rfl ?_
  refine s_lloadN (pc' := 18) X0.here hx (hb hby d2_17) rfl rfl ?_
  refine Win.go (fun _ k => XS.lmul X0.here hx rfl (hb hby d2_18) rfl k) ?_
  show Win p.tables e below _ (s₁.setTop (mkF m 19 #[.val (.long (-4265267296055464877 : Int64)), .second, .val (.long (7598929352186641179 : Int64)), .second] [(.long (1388895012133899713 : Int64)), (.long (2 : Int64)), (.long (7598929352186641179 : Int64))]))
  refine Win.go (fun _ k => XS.lsub X0.here hx rfl (hb hby d2_19) rfl k) ?_
  show Win p.tables e below _ (s₁.setTop (mkF m 20 #[.val (.long (-4265267296055464877 : Int64)), .second, .val (.long (7598929352186641179 : Int64)), .second] [(.long (-1388895012133899711 : Int64)), (.long (7598929352186641179 : Int64))]))
  refine Win.go (fun _ k => XS.lmul X0.here hx rfl (hb hby d2_20) rfl k) ?_
  show Win p.tables e below _ (s₁.setTop (mkF m 21 #[.val (.long (-4265267296055464877 : Int64)), .second, .val (.long (7598929352186641179 : Int64)), .second] [(.long (-5867444260212144165 : Int64))]))
  refine s_lstoreN (pc' := 22) (l' := #[.val (.long (-4265267296055464877 : Int64)), .second, .val (.long (-5867444260212144165 : Int64)), .second]) X0.here hx (hb hby d2_21) rfl rfl ?_
  refine s_lloadN (pc' := 23) X0.here hx (hb hby d2_22) rfl rfl ?_
  refine Win.go (fun _ k => X0.ldc2Long hx hown (mvT hZ (hw _ (List.mem_of_getElem? (i := 14) rfl))) (g := (mkF m 23 #[.val (.long (-4265267296055464877 : Int64)), .second, .val (.long (-5867444260212144165 : Int64)), .second] [(.long (-5867444260212144165 : Int64))])) rfl (hb hby d2_23) _ k) ?_
  show Win p.tables e below _ (s₁.setTop (mkF m 26 #[.val (.long (-4265267296055464877 : Int64)), .second, .val (.long (-5867444260212144165 : Int64)), .second] [(.long (2 : Int64)), (.long (-5867444260212144165 : Int64))]))
  refine s_lloadN (pc' := 27) X0.here hx (hb hby d2_26) rfl rfl ?_
  refine s_lloadN (pc' := 28) X0.here hx (hb hby d2_27) rfl rfl ?_
  refine Win.go (fun _ k => XS.lmul X0.here hx rfl (hb hby d2_28) rfl k) ?_
  show Win p.tables e below _ (s₁.setTop (mkF m 29 #[.val (.long (-4265267296055464877 : Int64)), .second, .val (.long (-5867444260212144165 : Int64)), .second] [(.long (-8135924677806460927 : Int64)), (.long (2 : Int64)), (.long (-5867444260212144165 : Int64))]))
  refine Win.go (fun _ k => XS.lsub X0.here hx rfl (hb hby d2_29) rfl k) ?_
  show Win p.tables e below _ (s₁.setTop (mkF m 30 #[.val (.long (-4265267296055464877 : Int64)), .second, .val (.long (-5867444260212144165 : Int64)), .second] [(.long (8135924677806460929 : Int64)), (.long (-5867444260212144165 : Int64))]))
  refine Win.go (fun _ k => XS.lmul X0.here hx rfl (hb hby d2_30) rfl k) ?_
  show Win p.tables e below _ (s₁.setTop (mkF m 31 #[.val (.long (-4265267296055464877 : Int64)), .second, .val (.long (-5867444260212144165 : Int64)), .second] [(.long (-1234621268690257957 : Int64))]))
  refine s_lstoreN (pc' := 32) (l' := #[.val (.long (-4265267296055464877 : Int64)), .second, .val (.long (-1234621268690257957 : Int64)), .second]) X0.here hx (hb hby d2_31) rfl rfl ?_
  refine s_lloadN (pc' := 33) X0.here hx (hb hby d2_32) rfl rfl ?_
  refine Win.go (fun _ k => X0.ldc2Long hx hown (mvT hZ (hw _ (List.mem_of_getElem? (i := 14) rfl))) (g := (mkF m 33 #[.val (.long (-4265267296055464877 : Int64)), .second, .val (.long (-1234621268690257957 : Int64)), .second] [(.long (-1234621268690257957 : Int64))])) rfl (hb hby d2_33) _ k) ?_
  show Win p.tables e below _ (s₁.setTop (mkF m 36 #[.val (.long (-4265267296055464877 : Int64)), .second, .val (.long (-1234621268690257957 : Int64)), .second] [(.long (2 : Int64)), (.long (-1234621268690257957 : Int64))]))
  refine s_lloadN (pc' := 37) X0.here hx (hb hby d2_36) rfl rfl ?_
  refine s_lloadN (pc' := 38) X0.here hx (hb hby d2_37) rfl rfl ?_
  refine Win.go (fun _ k => XS.lmul X0.here hx rfl (hb hby d2_38) rfl k) ?_
  show Win p.tables e below _ (s₁.setTop (mkF m 39 #[.val (.long (-4265267296055464877 : Int64)), .second, .val (.long (-1234621268690257957 : Int64)), .second] [(.long (-6181109711522234367 : Int64)), (.long (2 : Int64)), (.long (-1234621268690257957 : Int64))]))
  refine Win.go (fun _ k => XS.lsub X0.here hx rfl (hb hby d2_39) rfl k) ?_
  show Win p.tables e below _ (s₁.setTop (mkF m 40 #[.val (.long (-4265267296055464877 : Int64)), .second, .val (.long (-1234621268690257957 : Int64)), .second] [(.long (6181109711522234369 : Int64)), (.long (-1234621268690257957 : Int64))]))
  refine Win.go (fun _ k => XS.lmul X0.here hx rfl (hb hby d2_40) rfl k) ?_
  show Win p.tables e below _ (s₁.setTop (mkF m 41 #[.val (.long (-4265267296055464877 : Int64)), .second, .val (.long (-1234621268690257957 : Int64)), .second] [(.long (6276244334250768347 : Int64))]))
  refine s_lstoreN (pc' := 42) (l' := #[.val (.long (-4265267296055464877 : Int64)), .second, .val (.long (6276244334250768347 : Int64)), .second]) X0.here hx (hb hby d2_41) rfl rfl ?_
  refine s_lloadN (pc' := 43) X0.here hx (hb hby d2_42) rfl rfl ?_
  refine Win.go (fun _ k => X0.ldc2Long hx hown (mvT hZ (hw _ (List.mem_of_getElem? (i := 14) rfl))) (g := (mkF m 43 #[.val (.long (-4265267296055464877 : Int64)), .second, .val (.long (6276244334250768347 : Int64)), .second] [(.long (6276244334250768347 : Int64))])) rfl (hb hby d2_43) _ k) ?_
  show Win p.tables e below _ (s₁.setTop (mkF m 46 #[.val (.long (-4265267296055464877 : Int64)), .second, .val (.long (6276244334250768347 : Int64)), .second] [(.long (2 : Int64)), (.long (6276244334250768347 : Int64))]))
  refine s_lloadN (pc' := 47) X0.here hx (hb hby d2_46) rfl rfl ?_
  refine s_lloadN (pc' := 48) X0.here hx (hb hby d2_47) rfl rfl ?_
  refine Win.go (fun _ k => XS.lmul X0.here hx rfl (hb hby d2_48) rfl k) ?_
  show Win p.tables e below _ (s₁.setTop (mkF m 49 #[.val (.long (-4265267296055464877 : Int64)), .second, .val (.long (6276244334250768347 : Int64)), .second] [(.long (-8449034375923761151 : Int64)), (.long (2 : Int64)), (.long (6276244334250768347 : Int64))]))
  refine Win.go (fun _ k => XS.lsub X0.here hx rfl (hb hby d2_49) rfl k) ?_
  show Win p.tables e below _ (s₁.setTop (mkF m 50 #[.val (.long (-4265267296055464877 : Int64)), .second, .val (.long (6276244334250768347 : Int64)), .second] [(.long (8449034375923761153 : Int64)), (.long (6276244334250768347 : Int64))]))
  refine Win.go (fun _ k => XS.lmul X0.here hx rfl (hb hby d2_50) rfl k) ?_
  show Win p.tables e below _ (s₁.setTop (mkF m 51 #[.val (.long (-4265267296055464877 : Int64)), .second, .val (.long (6276244334250768347 : Int64)), .second] [(.long (-7154897129451604005 : Int64))]))
  refine s_lstoreN (pc' := 52) (l' := #[.val (.long (-4265267296055464877 : Int64)), .second, .val (.long (-7154897129451604005 : Int64)), .second]) X0.here hx (hb hby d2_51) rfl rfl ?_
  refine s_lloadN (pc' := 53) X0.here hx (hb hby d2_52) rfl rfl ?_
  refine winL X0 hx hlk e0 Bd.returns (hb hby d2_53) (by decide) (by decide) ?_
  exact ⟨Nf, rfl, rfl⟩
theorem ef_2b (m : MethodId)  : entryFrame m #[(.long (-49064778989728563 : Int64))] 4 = mkF m 0 #[.val (.long (-49064778989728563 : Int64)), .second, .unset, .unset] [] := by first | (simp [entryFrame, mkF, argsToLocals, Value.category]; done) | rfl
def Q2b (Z : State)  (h0 : Heap) (n0 : Nat) (v : Option Value) (h : Heap) (L : List Loc) : Prop := Fr n0 L ∧ h = h0 ∧ v = some (.long (5725274745694666757 : Int64))
set_option maxRecDepth 65536 in
set_option maxHeartbeats 40000000 in
theorem rm2b (l : Launch) (Z : State) (a0 : Array Value) (hw : ∀ d ∈ tables_1, d.before a0 Z = true) (ws : List Jvm.Cond)  (h0 : Heap) (n0 : Nat) (Zs : n0 ≤ h0.size) :
    MetFree l (⟨"com/example/sextant/sextant/store/DictionaryHashPinLaw", "inverse", "(J)J"⟩ : MethodName) (head1 (Jvm.Cond.code (⟨"com/example/sextant/sextant/store/DictionaryHashPinLaw", "inverse", "(J)J"⟩ : MethodName) method_2_code 4 (some .long) :: ws) ({ frames := 0, cells := 0, slots := 0, locals := 0 } : Room)) (fun as' U => as' = #[(.long (-49064778989728563 : Int64))] ∧ Z.Warmed39 U.vm ∧ U.heap = h0) (fun _ _ _ _ _ => True) (fun _ U o U' => ∃ v L, o = .returned v ∧ Q2b Z  h0 n0 v U'.heap L ∧ FrameEnd U o U' L ({ frames := 0, cells := 0, slots := 0, locals := 0 } : Room).cells ({ frames := 0, cells := 0, slots := 0, locals := 0 } : Room).slots) := by
  refine MetFree.of_bodySF (plainFor_of_name pn_2) hisR ?_
  intro p e s m args below meth c s₁ Bd hml0 hP hK
  obtain ⟨rfl, hZ, hh⟩ := hP
  have hx := Bd.exec
  have hby := Bd.bytes
  have hml : c.maxLocals = 4 := hml0
  have hown : s.vm.findClass "com/example/sextant/sextant/store/DictionaryHashPinLaw" = some m.cls := findClass_of_methodNamed Bd.named
  have hnm := (name_of_methodNamed Bd.named Bd.method).1
  have hlk : meth.locks = false := Bd.notSynchronized
  have X0 : Stand p l e ({ frames := 0, cells := 0, slots := 0, locals := 0 } : Room) s m #[(.long (-49064778989728563 : Int64))] below meth c s₁ [] 0 0 := Stand.of_body Bd
  have e0 : s₁.heap = h0 := by rw [← hh, Bd.state]; rfl
  have Nf := Fr.nil n0
  refine (?_ : Win p.tables e below (PostQ s (Q2b Z  h0 n0) ({ frames := 0, cells := 0, slots := 0, locals := 0 } : Room).cells ({ frames := 0, cells := 0, slots := 0, locals := 0 } : Room).slots) (s₁.setTop (entryFrame m #[(.long (-49064778989728563 : Int64))] 4)))
  rw [ef_2b]
  show Win p.tables e below _ (s₁.setTop (mkF m 0 #[.val (.long (-49064778989728563 : Int64)), .second, .unset, .unset] []))
  refine s_lloadN (pc' := 1) X0.here hx (hb hby d2_0) rfl rfl ?_
  refine s_lstoreN (pc' := 2) (l' := #[.val (.long (-49064778989728563 : Int64)), .second, .val (.long (-49064778989728563 : Int64)), .second]) X0.here hx (hb hby d2_1) rfl rfl ?_
  refine s_lloadN (pc' := 3) X0.here hx (hb hby d2_2) rfl rfl ?_
  refine Win.go (fun _ k => X0.ldc2Long hx hown (mvT hZ (hw _ (List.mem_of_getElem? (i := 14) rfl))) (g := (mkF m 3 #[.val (.long (-49064778989728563 : Int64)), .second, .val (.long (-49064778989728563 : Int64)), .second] [(.long (-49064778989728563 : Int64))])) rfl (hb hby d2_3) _ k) ?_
  show Win p.tables e below _ (s₁.setTop (mkF m 6 #[.val (.long (-49064778989728563 : Int64)), .second, .val (.long (-49064778989728563 : Int64)), .second] [(.long (2 : Int64)), (.long (-49064778989728563 : Int64))]))
  refine s_lloadN (pc' := 7) X0.here hx (hb hby d2_6) rfl rfl ?_
  refine s_lloadN (pc' := 8) X0.here hx (hb hby d2_7) rfl rfl ?_
  refine Win.go (fun _ k => XS.lmul X0.here hx rfl (hb hby d2_8) rfl k) ?_
  show Win p.tables e below _ (s₁.setTop (mkF m 9 #[.val (.long (-49064778989728563 : Int64)), .second, .val (.long (-49064778989728563 : Int64)), .second] [(.long (-579757498876896215 : Int64)), (.long (2 : Int64)), (.long (-49064778989728563 : Int64))]))
  refine Win.go (fun _ k => XS.lsub X0.here hx rfl (hb hby d2_9) rfl k) ?_
  show Win p.tables e below _ (s₁.setTop (mkF m 10 #[.val (.long (-49064778989728563 : Int64)), .second, .val (.long (-49064778989728563 : Int64)), .second] [(.long (579757498876896217 : Int64)), (.long (-49064778989728563 : Int64))]))
  refine Win.go (fun _ k => XS.lmul X0.here hx rfl (hb hby d2_10) rfl k) ?_
  show Win p.tables e below _ (s₁.setTop (mkF m 11 #[.val (.long (-49064778989728563 : Int64)), .second, .val (.long (-49064778989728563 : Int64)), .second] [(.long (-4308230726457925435 : Int64))]))
  refine s_lstoreN (pc' := 12) (l' := #[.val (.long (-49064778989728563 : Int64)), .second, .val (.long (-4308230726457925435 : Int64)), .second]) X0.here hx (hb hby d2_11) rfl rfl ?_
  refine s_lloadN (pc' := 13) X0.here hx (hb hby d2_12) rfl rfl ?_
  refine Win.go (fun _ k => X0.ldc2Long hx hown (mvT hZ (hw _ (List.mem_of_getElem? (i := 14) rfl))) (g := (mkF m 13 #[.val (.long (-49064778989728563 : Int64)), .second, .val (.long (-4308230726457925435 : Int64)), .second] [(.long (-4308230726457925435 : Int64))])) rfl (hb hby d2_13) _ k) ?_
  show Win p.tables e below _ (s₁.setTop (mkF m 16 #[.val (.long (-49064778989728563 : Int64)), .second, .val (.long (-4308230726457925435 : Int64)), .second] [(.long (2 : Int64)), (.long (-4308230726457925435 : Int64))]))
  refine s_lloadN (pc' := 17) X0.here hx (hb hby d2_16) rfl rfl ?_
  refine s_lloadN (pc' := 18) X0.here hx (hb hby d2_17) rfl rfl ?_
  refine Win.go (fun _ k => XS.lmul X0.here hx rfl (hb hby d2_18) rfl k) ?_
  show Win p.tables e below _ (s₁.setTop (mkF m 19 #[.val (.long (-49064778989728563 : Int64)), .second, .val (.long (-4308230726457925435 : Int64)), .second] [(.long (-4111880629278524991 : Int64)), (.long (2 : Int64)), (.long (-4308230726457925435 : Int64))]))
  refine Win.go (fun _ k => XS.lsub X0.here hx rfl (hb hby d2_19) rfl k) ?_
  show Win p.tables e below _ (s₁.setTop (mkF m 20 #[.val (.long (-49064778989728563 : Int64)), .second, .val (.long (-4308230726457925435 : Int64)), .second] [(.long (4111880629278524993 : Int64)), (.long (-4308230726457925435 : Int64))]))
  refine Win.go (fun _ k => XS.lmul X0.here hx rfl (hb hby d2_20) rfl k) ?_
  show Win p.tables e below _ (s₁.setTop (mkF m 21 #[.val (.long (-49064778989728563 : Int64)), .second, .val (.long (-4308230726457925435 : Int64)), .second] [(.long (-2898184456831373307 : Int64))]))
  refine s_lstoreN (pc' := 22) (l' := #[.val (.long (-49064778989728563 : Int64)), .second, .val (.long (-2898184456831373307 : Int64)), .second]) X0.here hx (hb hby d2_21) rfl rfl ?_
  refine s_lloadN (pc' := 23) X0.here hx (hb hby d2_22) rfl rfl ?_
  refine Win.go (fun _ k => X0.ldc2Long hx hown (mvT hZ (hw _ (List.mem_of_getElem? (i := 14) rfl))) (g := (mkF m 23 #[.val (.long (-49064778989728563 : Int64)), .second, .val (.long (-2898184456831373307 : Int64)), .second] [(.long (-2898184456831373307 : Int64))])) rfl (hb hby d2_23) _ k) ?_
  show Win p.tables e below _ (s₁.setTop (mkF m 26 #[.val (.long (-49064778989728563 : Int64)), .second, .val (.long (-2898184456831373307 : Int64)), .second] [(.long (2 : Int64)), (.long (-2898184456831373307 : Int64))]))
  refine s_lloadN (pc' := 27) X0.here hx (hb hby d2_26) rfl rfl ?_
  refine s_lloadN (pc' := 28) X0.here hx (hb hby d2_27) rfl rfl ?_
  refine Win.go (fun _ k => XS.lmul X0.here hx rfl (hb hby d2_28) rfl k) ?_
  show Win p.tables e below _ (s₁.setTop (mkF m 29 #[.val (.long (-49064778989728563 : Int64)), .second, .val (.long (-2898184456831373307 : Int64)), .second] [(.long (-4511162375495684095 : Int64)), (.long (2 : Int64)), (.long (-2898184456831373307 : Int64))]))
  refine Win.go (fun _ k => XS.lsub X0.here hx rfl (hb hby d2_29) rfl k) ?_
  show Win p.tables e below _ (s₁.setTop (mkF m 30 #[.val (.long (-49064778989728563 : Int64)), .second, .val (.long (-2898184456831373307 : Int64)), .second] [(.long (4511162375495684097 : Int64)), (.long (-2898184456831373307 : Int64))]))
  refine Win.go (fun _ k => XS.lmul X0.here hx rfl (hb hby d2_30) rfl k) ?_
  show Win p.tables e below _ (s₁.setTop (mkF m 31 #[.val (.long (-49064778989728563 : Int64)), .second, .val (.long (-2898184456831373307 : Int64)), .second] [(.long (2637945697791721477 : Int64))]))
  refine s_lstoreN (pc' := 32) (l' := #[.val (.long (-49064778989728563 : Int64)), .second, .val (.long (2637945697791721477 : Int64)), .second]) X0.here hx (hb hby d2_31) rfl rfl ?_
  refine s_lloadN (pc' := 33) X0.here hx (hb hby d2_32) rfl rfl ?_
  refine Win.go (fun _ k => X0.ldc2Long hx hown (mvT hZ (hw _ (List.mem_of_getElem? (i := 14) rfl))) (g := (mkF m 33 #[.val (.long (-49064778989728563 : Int64)), .second, .val (.long (2637945697791721477 : Int64)), .second] [(.long (2637945697791721477 : Int64))])) rfl (hb hby d2_33) _ k) ?_
  show Win p.tables e below _ (s₁.setTop (mkF m 36 #[.val (.long (-49064778989728563 : Int64)), .second, .val (.long (2637945697791721477 : Int64)), .second] [(.long (2 : Int64)), (.long (2637945697791721477 : Int64))]))
  refine s_lloadN (pc' := 37) X0.here hx (hb hby d2_36) rfl rfl ?_
  refine s_lloadN (pc' := 38) X0.here hx (hb hby d2_37) rfl rfl ?_
  refine Win.go (fun _ k => XS.lmul X0.here hx rfl (hb hby d2_38) rfl k) ?_
  show Win p.tables e below _ (s₁.setTop (mkF m 39 #[.val (.long (-49064778989728563 : Int64)), .second, .val (.long (2637945697791721477 : Int64)), .second] [(.long (5170587974282248193 : Int64)), (.long (2 : Int64)), (.long (2637945697791721477 : Int64))]))
  refine Win.go (fun _ k => XS.lsub X0.here hx rfl (hb hby d2_39) rfl k) ?_
  show Win p.tables e below _ (s₁.setTop (mkF m 40 #[.val (.long (-49064778989728563 : Int64)), .second, .val (.long (2637945697791721477 : Int64)), .second] [(.long (-5170587974282248191 : Int64)), (.long (2637945697791721477 : Int64))]))
  refine Win.go (fun _ k => XS.lmul X0.here hx rfl (hb hby d2_40) rfl k) ?_
  show Win p.tables e below _ (s₁.setTop (mkF m 41 #[.val (.long (-49064778989728563 : Int64)), .second, .val (.long (2637945697791721477 : Int64)), .second] [(.long (2931635601841405957 : Int64))]))
  refine s_lstoreN (pc' := 42) (l' := #[.val (.long (-49064778989728563 : Int64)), .second, .val (.long (2931635601841405957 : Int64)), .second]) X0.here hx (hb hby d2_41) rfl rfl ?_
  refine s_lloadN (pc' := 43) X0.here hx (hb hby d2_42) rfl rfl ?_
  refine Win.go (fun _ k => X0.ldc2Long hx hown (mvT hZ (hw _ (List.mem_of_getElem? (i := 14) rfl))) (g := (mkF m 43 #[.val (.long (-49064778989728563 : Int64)), .second, .val (.long (2931635601841405957 : Int64)), .second] [(.long (2931635601841405957 : Int64))])) rfl (hb hby d2_43) _ k) ?_
  show Win p.tables e below _ (s₁.setTop (mkF m 46 #[.val (.long (-49064778989728563 : Int64)), .second, .val (.long (2931635601841405957 : Int64)), .second] [(.long (2 : Int64)), (.long (2931635601841405957 : Int64))]))
  refine s_lloadN (pc' := 47) X0.here hx (hb hby d2_46) rfl rfl ?_
  refine s_lloadN (pc' := 48) X0.here hx (hb hby d2_47) rfl rfl ?_
  refine Win.go (fun _ k => XS.lmul X0.here hx rfl (hb hby d2_48) rfl k) ?_
  show Win p.tables e below _ (s₁.setTop (mkF m 49 #[.val (.long (-49064778989728563 : Int64)), .second, .val (.long (2931635601841405957 : Int64)), .second] [(.long (4052958189656735745 : Int64)), (.long (2 : Int64)), (.long (2931635601841405957 : Int64))]))
  refine Win.go (fun _ k => XS.lsub X0.here hx rfl (hb hby d2_49) rfl k) ?_
  show Win p.tables e below _ (s₁.setTop (mkF m 50 #[.val (.long (-49064778989728563 : Int64)), .second, .val (.long (2931635601841405957 : Int64)), .second] [(.long (-4052958189656735743 : Int64)), (.long (2931635601841405957 : Int64))]))
  refine Win.go (fun _ k => XS.lmul X0.here hx rfl (hb hby d2_50) rfl k) ?_
  show Win p.tables e below _ (s₁.setTop (mkF m 51 #[.val (.long (-49064778989728563 : Int64)), .second, .val (.long (2931635601841405957 : Int64)), .second] [(.long (5725274745694666757 : Int64))]))
  refine s_lstoreN (pc' := 52) (l' := #[.val (.long (-49064778989728563 : Int64)), .second, .val (.long (5725274745694666757 : Int64)), .second]) X0.here hx (hb hby d2_51) rfl rfl ?_
  refine s_lloadN (pc' := 53) X0.here hx (hb hby d2_52) rfl rfl ?_
  refine winL X0 hx hlk e0 Bd.returns (hb hby d2_53) (by decide) (by decide) ?_
  exact ⟨Nf, rfl, rfl⟩
theorem ef_2c (m : MethodId)  : entryFrame m #[(.long (1099511628211 : Int64))] 4 = mkF m 0 #[.val (.long (1099511628211 : Int64)), .second, .unset, .unset] [] := by first | (simp [entryFrame, mkF, argsToLocals, Value.category]; done) | rfl
def Q2c (Z : State)  (h0 : Heap) (n0 : Nat) (v : Option Value) (h : Heap) (L : List Loc) : Prop := Fr n0 L ∧ h = h0 ∧ v = some (.long (-3560570117845248645 : Int64))
set_option maxRecDepth 65536 in
set_option maxHeartbeats 40000000 in
theorem rm2c (l : Launch) (Z : State) (a0 : Array Value) (hw : ∀ d ∈ tables_1, d.before a0 Z = true) (ws : List Jvm.Cond)  (h0 : Heap) (n0 : Nat) (Zs : n0 ≤ h0.size) :
    MetFree l (⟨"com/example/sextant/sextant/store/DictionaryHashPinLaw", "inverse", "(J)J"⟩ : MethodName) (head1 (Jvm.Cond.code (⟨"com/example/sextant/sextant/store/DictionaryHashPinLaw", "inverse", "(J)J"⟩ : MethodName) method_2_code 4 (some .long) :: ws) ({ frames := 0, cells := 0, slots := 0, locals := 0 } : Room)) (fun as' U => as' = #[(.long (1099511628211 : Int64))] ∧ Z.Warmed39 U.vm ∧ U.heap = h0) (fun _ _ _ _ _ => True) (fun _ U o U' => ∃ v L, o = .returned v ∧ Q2c Z  h0 n0 v U'.heap L ∧ FrameEnd U o U' L ({ frames := 0, cells := 0, slots := 0, locals := 0 } : Room).cells ({ frames := 0, cells := 0, slots := 0, locals := 0 } : Room).slots) := by
  refine MetFree.of_bodySF (plainFor_of_name pn_2) hisR ?_
  intro p e s m args below meth c s₁ Bd hml0 hP hK
  obtain ⟨rfl, hZ, hh⟩ := hP
  have hx := Bd.exec
  have hby := Bd.bytes
  have hml : c.maxLocals = 4 := hml0
  have hown : s.vm.findClass "com/example/sextant/sextant/store/DictionaryHashPinLaw" = some m.cls := findClass_of_methodNamed Bd.named
  have hnm := (name_of_methodNamed Bd.named Bd.method).1
  have hlk : meth.locks = false := Bd.notSynchronized
  have X0 : Stand p l e ({ frames := 0, cells := 0, slots := 0, locals := 0 } : Room) s m #[(.long (1099511628211 : Int64))] below meth c s₁ [] 0 0 := Stand.of_body Bd
  have e0 : s₁.heap = h0 := by rw [← hh, Bd.state]; rfl
  have Nf := Fr.nil n0
  refine (?_ : Win p.tables e below (PostQ s (Q2c Z  h0 n0) ({ frames := 0, cells := 0, slots := 0, locals := 0 } : Room).cells ({ frames := 0, cells := 0, slots := 0, locals := 0 } : Room).slots) (s₁.setTop (entryFrame m #[(.long (1099511628211 : Int64))] 4)))
  rw [ef_2c]
  show Win p.tables e below _ (s₁.setTop (mkF m 0 #[.val (.long (1099511628211 : Int64)), .second, .unset, .unset] []))
  refine s_lloadN (pc' := 1) X0.here hx (hb hby d2_0) rfl rfl ?_
  refine s_lstoreN (pc' := 2) (l' := #[.val (.long (1099511628211 : Int64)), .second, .val (.long (1099511628211 : Int64)), .second]) X0.here hx (hb hby d2_1) rfl rfl ?_
  refine s_lloadN (pc' := 3) X0.here hx (hb hby d2_2) rfl rfl ?_
  refine Win.go (fun _ k => X0.ldc2Long hx hown (mvT hZ (hw _ (List.mem_of_getElem? (i := 14) rfl))) (g := (mkF m 3 #[.val (.long (1099511628211 : Int64)), .second, .val (.long (1099511628211 : Int64)), .second] [(.long (1099511628211 : Int64))])) rfl (hb hby d2_3) _ k) ?_
  show Win p.tables e below _ (s₁.setTop (mkF m 6 #[.val (.long (1099511628211 : Int64)), .second, .val (.long (1099511628211 : Int64)), .second] [(.long (2 : Int64)), (.long (1099511628211 : Int64))]))
  refine s_lloadN (pc' := 7) X0.here hx (hb hby d2_6) rfl rfl ?_
  refine s_lloadN (pc' := 8) X0.here hx (hb hby d2_7) rfl rfl ?_
  refine Win.go (fun _ k => XS.lmul X0.here hx rfl (hb hby d2_8) rfl k) ?_
  show Win p.tables e below _ (s₁.setTop (mkF m 9 #[.val (.long (1099511628211 : Int64)), .second, .val (.long (1099511628211 : Int64)), .second] [(.long (956575116354345 : Int64)), (.long (2 : Int64)), (.long (1099511628211 : Int64))]))
  refine Win.go (fun _ k => XS.lsub X0.here hx rfl (hb hby d2_9) rfl k) ?_
  show Win p.tables e below _ (s₁.setTop (mkF m 10 #[.val (.long (1099511628211 : Int64)), .second, .val (.long (1099511628211 : Int64)), .second] [(.long (-956575116354343 : Int64)), (.long (1099511628211 : Int64))]))
  refine Win.go (fun _ k => XS.lmul X0.here hx rfl (hb hby d2_10) rfl k) ?_
  show Win p.tables e below _ (s₁.setTop (mkF m 11 #[.val (.long (1099511628211 : Int64)), .second, .val (.long (1099511628211 : Int64)), .second] [(.long (-624163064356797253 : Int64))]))
  refine s_lstoreN (pc' := 12) (l' := #[.val (.long (1099511628211 : Int64)), .second, .val (.long (-624163064356797253 : Int64)), .second]) X0.here hx (hb hby d2_11) rfl rfl ?_
  refine s_lloadN (pc' := 13) X0.here hx (hb hby d2_12) rfl rfl ?_
  refine Win.go (fun _ k => X0.ldc2Long hx hown (mvT hZ (hw _ (List.mem_of_getElem? (i := 14) rfl))) (g := (mkF m 13 #[.val (.long (1099511628211 : Int64)), .second, .val (.long (-624163064356797253 : Int64)), .second] [(.long (-624163064356797253 : Int64))])) rfl (hb hby d2_13) _ k) ?_
  show Win p.tables e below _ (s₁.setTop (mkF m 16 #[.val (.long (1099511628211 : Int64)), .second, .val (.long (-624163064356797253 : Int64)), .second] [(.long (2 : Int64)), (.long (-624163064356797253 : Int64))]))
  refine s_lloadN (pc' := 17) X0.here hx (hb hby d2_16) rfl rfl ?_
  refine s_lloadN (pc' := 18) X0.here hx (hb hby d2_17) rfl rfl ?_
  refine Win.go (fun _ k => XS.lmul X0.here hx rfl (hb hby d2_18) rfl k) ?_
  show Win p.tables e below _ (s₁.setTop (mkF m 19 #[.val (.long (1099511628211 : Int64)), .second, .val (.long (-624163064356797253 : Int64)), .second] [(.long (6920941875927976385 : Int64)), (.long (2 : Int64)), (.long (-624163064356797253 : Int64))]))
  refine Win.go (fun _ k => XS.lsub X0.here hx rfl (hb hby d2_19) rfl k) ?_
  show Win p.tables e below _ (s₁.setTop (mkF m 20 #[.val (.long (1099511628211 : Int64)), .second, .val (.long (-624163064356797253 : Int64)), .second] [(.long (-6920941875927976383 : Int64)), (.long (-624163064356797253 : Int64))]))
  refine Win.go (fun _ k => XS.lmul X0.here hx rfl (hb hby d2_20) rfl k) ?_
  show Win p.tables e below _ (s₁.setTop (mkF m 21 #[.val (.long (1099511628211 : Int64)), .second, .val (.long (-624163064356797253 : Int64)), .second] [(.long (4138864268038235515 : Int64))]))
  refine s_lstoreN (pc' := 22) (l' := #[.val (.long (1099511628211 : Int64)), .second, .val (.long (4138864268038235515 : Int64)), .second]) X0.here hx (hb hby d2_21) rfl rfl ?_
  refine s_lloadN (pc' := 23) X0.here hx (hb hby d2_22) rfl rfl ?_
  refine Win.go (fun _ k => X0.ldc2Long hx hown (mvT hZ (hw _ (List.mem_of_getElem? (i := 14) rfl))) (g := (mkF m 23 #[.val (.long (1099511628211 : Int64)), .second, .val (.long (4138864268038235515 : Int64)), .second] [(.long (4138864268038235515 : Int64))])) rfl (hb hby d2_23) _ k) ?_
  show Win p.tables e below _ (s₁.setTop (mkF m 26 #[.val (.long (1099511628211 : Int64)), .second, .val (.long (4138864268038235515 : Int64)), .second] [(.long (2 : Int64)), (.long (4138864268038235515 : Int64))]))
  refine s_lloadN (pc' := 27) X0.here hx (hb hby d2_26) rfl rfl ?_
  refine s_lloadN (pc' := 28) X0.here hx (hb hby d2_27) rfl rfl ?_
  refine Win.go (fun _ k => XS.lmul X0.here hx rfl (hb hby d2_28) rfl k) ?_
  show Win p.tables e below _ (s₁.setTop (mkF m 29 #[.val (.long (1099511628211 : Int64)), .second, .val (.long (4138864268038235515 : Int64)), .second] [(.long (-7814772775572148223 : Int64)), (.long (2 : Int64)), (.long (4138864268038235515 : Int64))]))
  refine Win.go (fun _ k => XS.lsub X0.here hx rfl (hb hby d2_29) rfl k) ?_
  show Win p.tables e below _ (s₁.setTop (mkF m 30 #[.val (.long (1099511628211 : Int64)), .second, .val (.long (4138864268038235515 : Int64)), .second] [(.long (7814772775572148225 : Int64)), (.long (4138864268038235515 : Int64))]))
  refine Win.go (fun _ k => XS.lmul X0.here hx rfl (hb hby d2_30) rfl k) ?_
  show Win p.tables e below _ (s₁.setTop (mkF m 31 #[.val (.long (1099511628211 : Int64)), .second, .val (.long (4138864268038235515 : Int64)), .second] [(.long (2867680748993156475 : Int64))]))
  refine s_lstoreN (pc' := 32) (l' := #[.val (.long (1099511628211 : Int64)), .second, .val (.long (2867680748993156475 : Int64)), .second]) X0.here hx (hb hby d2_31) rfl rfl ?_
  refine s_lloadN (pc' := 33) X0.here hx (hb hby d2_32) rfl rfl ?_
  refine Win.go (fun _ k => X0.ldc2Long hx hown (mvT hZ (hw _ (List.mem_of_getElem? (i := 14) rfl))) (g := (mkF m 33 #[.val (.long (1099511628211 : Int64)), .second, .val (.long (2867680748993156475 : Int64)), .second] [(.long (2867680748993156475 : Int64))])) rfl (hb hby d2_33) _ k) ?_
  show Win p.tables e below _ (s₁.setTop (mkF m 36 #[.val (.long (1099511628211 : Int64)), .second, .val (.long (2867680748993156475 : Int64)), .second] [(.long (2 : Int64)), (.long (2867680748993156475 : Int64))]))
  refine s_lloadN (pc' := 37) X0.here hx (hb hby d2_36) rfl rfl ?_
  refine s_lloadN (pc' := 38) X0.here hx (hb hby d2_37) rfl rfl ?_
  refine Win.go (fun _ k => XS.lmul X0.here hx rfl (hb hby d2_38) rfl k) ?_
  show Win p.tables e below _ (s₁.setTop (mkF m 39 #[.val (.long (1099511628211 : Int64)), .second, .val (.long (2867680748993156475 : Int64)), .second] [(.long (-7615972129145618431 : Int64)), (.long (2 : Int64)), (.long (2867680748993156475 : Int64))]))
  refine Win.go (fun _ k => XS.lsub X0.here hx rfl (hb hby d2_39) rfl k) ?_
  show Win p.tables e below _ (s₁.setTop (mkF m 40 #[.val (.long (1099511628211 : Int64)), .second, .val (.long (2867680748993156475 : Int64)), .second] [(.long (7615972129145618433 : Int64)), (.long (2867680748993156475 : Int64))]))
  refine Win.go (fun _ k => XS.lmul X0.here hx rfl (hb hby d2_40) rfl k) ?_
  show Win p.tables e below _ (s₁.setTop (mkF m 41 #[.val (.long (1099511628211 : Int64)), .second, .val (.long (2867680748993156475 : Int64)), .second] [(.long (7916009107578328443 : Int64))]))
  refine s_lstoreN (pc' := 42) (l' := #[.val (.long (1099511628211 : Int64)), .second, .val (.long (7916009107578328443 : Int64)), .second]) X0.here hx (hb hby d2_41) rfl rfl ?_
  refine s_lloadN (pc' := 43) X0.here hx (hb hby d2_42) rfl rfl ?_
  refine Win.go (fun _ k => X0.ldc2Long hx hown (mvT hZ (hw _ (List.mem_of_getElem? (i := 14) rfl))) (g := (mkF m 43 #[.val (.long (1099511628211 : Int64)), .second, .val (.long (7916009107578328443 : Int64)), .second] [(.long (7916009107578328443 : Int64))])) rfl (hb hby d2_43) _ k) ?_
  show Win p.tables e below _ (s₁.setTop (mkF m 46 #[.val (.long (1099511628211 : Int64)), .second, .val (.long (7916009107578328443 : Int64)), .second] [(.long (2 : Int64)), (.long (7916009107578328443 : Int64))]))
  refine s_lloadN (pc' := 47) X0.here hx (hb hby d2_46) rfl rfl ?_
  refine s_lloadN (pc' := 48) X0.here hx (hb hby d2_47) rfl rfl ?_
  refine Win.go (fun _ k => XS.lmul X0.here hx rfl (hb hby d2_48) rfl k) ?_
  show Win p.tables e below _ (s₁.setTop (mkF m 49 #[.val (.long (1099511628211 : Int64)), .second, .val (.long (7916009107578328443 : Int64)), .second] [(.long (-6755680916032454655 : Int64)), (.long (2 : Int64)), (.long (7916009107578328443 : Int64))]))
  refine Win.go (fun _ k => XS.lsub X0.here hx rfl (hb hby d2_49) rfl k) ?_
  show Win p.tables e below _ (s₁.setTop (mkF m 50 #[.val (.long (1099511628211 : Int64)), .second, .val (.long (7916009107578328443 : Int64)), .second] [(.long (6755680916032454657 : Int64)), (.long (7916009107578328443 : Int64))]))
  refine Win.go (fun _ k => XS.lmul X0.here hx rfl (hb hby d2_50) rfl k) ?_
  show Win p.tables e below _ (s₁.setTop (mkF m 51 #[.val (.long (1099511628211 : Int64)), .second, .val (.long (7916009107578328443 : Int64)), .second] [(.long (-3560570117845248645 : Int64))]))
  refine s_lstoreN (pc' := 52) (l' := #[.val (.long (1099511628211 : Int64)), .second, .val (.long (-3560570117845248645 : Int64)), .second]) X0.here hx (hb hby d2_51) rfl rfl ?_
  refine s_lloadN (pc' := 53) X0.here hx (hb hby d2_52) rfl rfl ?_
  refine winL X0 hx hlk e0 Bd.returns (hb hby d2_53) (by decide) (by decide) ?_
  exact ⟨Nf, rfl, rfl⟩
theorem pd_0 : parseMethodDescriptor "([B)J" = some ⟨[(.array .byte)], some .long⟩ := by decide +kernel
theorem pd_1 : parseMethodDescriptor "(J)J" = some ⟨[.long], some .long⟩ := by decide +kernel
theorem ef_0 (m : MethodId) (p0 : Int32) (p1 : Int32) (p2 : Int32) (p3 : Int32) (p4 : Int32) : entryFrame m #[(.int p0), (.int p1), (.int p2), (.int p3), (.int p4)] maxLocals = mkF m 0 #[.val (.int p0), .val (.int p1), .val (.int p2), .val (.int p3), .val (.int p4), .unset, .unset, .unset, .unset, .unset, .unset] [] := by first | (simp [entryFrame, mkF, argsToLocals, Value.category, maxLocals]; done) | rfl
def Q0 (Z : State) (p0 : Int32) (p1 : Int32) (p2 : Int32) (p3 : Int32) (p4 : Int32) (h0 : Heap) (n0 : Nat) (v : Option Value) (h : Heap) (L : List Loc) : Prop := Fr n0 L ∧ v = some (.int 1)
set_option maxRecDepth 65536 in
set_option maxHeartbeats 40000000 in
theorem rm0 (l : Launch) (Z : State) (a0 : Array Value) (hw : ∀ d ∈ tables_1, d.before a0 Z = true) (ws : List Jvm.Cond) (p0 : Int32) (p1 : Int32) (p2 : Int32) (p3 : Int32) (p4 : Int32) (h0 : Heap) (n0 : Nat) (Zs : n0 ≤ h0.size) :
    MetFree l x (head1 (Jvm.Cond.code x code maxLocals ret :: ws) room_1) (fun as' U => as' = #[(.int p0), (.int p1), (.int p2), (.int p3), (.int p4)] ∧ Z.Warmed39 U.vm ∧ U.heap = h0) (fun _ _ _ _ _ => True) (fun _ U o U' => ∃ v L, o = .returned v ∧ Q0 Z p0 p1 p2 p3 p4 h0 n0 v U'.heap L ∧ FrameEnd U o U' L room_1.cells room_1.slots) := by
  refine MetFree.of_bodySF (plainFor_of_name pn_2) hisR ?_
  intro p e s m args below meth c s₁ Bd hml0 hP hK
  obtain ⟨rfl, hZ, hh⟩ := hP
  have hx := Bd.exec
  have hby := Bd.bytes
  have hml : c.maxLocals = 11 := hml0
  have hown : s.vm.findClass "com/example/sextant/sextant/store/DictionaryHashPinLaw" = some m.cls := findClass_of_methodNamed Bd.named
  have hnm := (name_of_methodNamed Bd.named Bd.method).1
  have hlk : meth.locks = false := Bd.notSynchronized
  have X0 : Stand p l e room_1 s m #[(.int p0), (.int p1), (.int p2), (.int p3), (.int p4)] below meth c s₁ [] 0 0 := Stand.of_body Bd
  have e0 : s₁.heap = h0 := by rw [← hh, Bd.state]; rfl
  have Nf := Fr.nil n0
  refine (?_ : Win p.tables e below (PostQ s (Q0 Z p0 p1 p2 p3 p4 h0 n0) room_1.cells room_1.slots) (s₁.setTop (entryFrame m #[(.int p0), (.int p1), (.int p2), (.int p3), (.int p4)] maxLocals)))
  rw [ef_0]
  show Win p.tables e below _ (s₁.setTop (mkF m 0 #[.val (.int p0), .val (.int p1), .val (.int p2), .val (.int p3), .val (.int p4), .unset, .unset, .unset, .unset, .unset, .unset] []))
  refine s_iloadN (pc' := 1) X0.here hx (hb hby at_0) rfl rfl ?_
  refine Win.go (fun _ k => X0.ldcInt hx hown (mvT hZ (hw _ (List.mem_of_getElem? (i := 0) rfl))) (g := (mkF m 1 #[.val (.int p0), .val (.int p1), .val (.int p2), .val (.int p3), .val (.int p4), .unset, .unset, .unset, .unset, .unset, .unset] [(.int p0)])) rfl (hb hby at_1) _ k) ?_
  show Win p.tables e below _ (s₁.setTop (mkF m 3 #[.val (.int p0), .val (.int p1), .val (.int p2), .val (.int p3), .val (.int p4), .unset, .unset, .unset, .unset, .unset, .unset] [(.int (2147483647 : Int32)), (.int p0)]))
  refine s_iand (pc' := 4) X0.here hx (hb hby at_3) rfl ?_
  refine s_iconst (pc' := 5) (z := (5 : Int32)) X0.here hx (hb hby at_4) rfl rfl ?_
  refine Win.go (fun _ k => iremM X0 hx rfl (hb hby at_5) rfl (by decide) k) ?_
  show Win p.tables e below _ (s₁.setTop (mkF m 6 #[.val (.int p0), .val (.int p1), .val (.int p2), .val (.int p3), .val (.int p4), .unset, .unset, .unset, .unset, .unset, .unset] [(.int ((p0 &&& (2147483647 : Int32)) % (5 : Int32)))]))
  refine s_istore (pc' := 8) (l' := #[.val (.int p0), .val (.int p1), .val (.int p2), .val (.int p3), .val (.int p4), .val (.int ((p0 &&& (2147483647 : Int32)) % (5 : Int32))), .unset, .unset, .unset, .unset, .unset]) X0.here hx (hb hby at_6) rfl rfl ?_
  generalize hln : ((p0 &&& (2147483647 : Int32)) % (5 : Int32)) = ln
  show Win p.tables e below _ (s₁.setTop (mkF m 8 #[.val (.int p0), .val (.int p1), .val (.int p2), .val (.int p3), .val (.int p4), .val (.int ln), .unset, .unset, .unset, .unset, .unset] []))
  have bln : 0 ≤ ln.toInt ∧ ln.toInt ≤ 4 := by
    have h1 := c_and p0 2147483647 (by decide)
    have h2 := (c_irem (p0 &&& (2147483647 : Int32)) 5 5 rfl).1 h1.1
    rw [hln] at h2
    omega
  clear hln
  rcases (own_five bln.1 bln.2 : ln = (0 : Int32) ∨ ln = (1 : Int32) ∨ ln = (2 : Int32) ∨ ln = (3 : Int32) ∨ ln = (4 : Int32)) with rfl | rfl | rfl | rfl | rfl
  · skip
    show Win p.tables e below _ (s₁.setTop (mkF m 8 #[.val (.int p0), .val (.int p1), .val (.int p2), .val (.int p3), .val (.int p4), .val (.int (0 : Int32)), .unset, .unset, .unset, .unset, .unset] []))
    refine s_iload (pc' := 10) X0.here hx (hb hby at_8) rfl rfl ?_
    obtain ⟨T_16, h_16, k_16, X_16, e_16, Ex_16, A_16, EA_16, st_16⟩ := newPE X0 hx hZ (hw _ (List.mem_of_getElem? (i := 1) rfl)) e0 (g := (mkF m 10 #[.val (.int p0), .val (.int p1), .val (.int p2), .val (.int p3), .val (.int p4), .val (.int (0 : Int32)), .unset, .unset, .unset, .unset, .unset] [(.int (0 : Int32))])) rfl (hb hby at_10) rfl (by decide) (cap := 0) (by decide) (by decide) (by decide) (by decide) (ad := "[B") (by decide)
    obtain ⟨b_16, g_16⟩ : ∃ z, z = h0.size := ⟨_, rfl⟩
    have g_b_16 : n0 ≤ b_16 := Nat.le_trans Zs (Nat.le_of_eq g_16.symm)
    rw [← g_16] at A_16 EA_16 st_16
    replace Zs := Nat.le_trans Zs Ex_16.1
    have V_b_16 : Arv Z h_16 b_16 k_16 .byte (0 : Int32) [] (.int (0 : Int32)) := (Arv.new A_16 (by decide)).pad (pad_rep [] (.int (0 : Int32)) 0)
    have lt_b_16 := V_b_16.lt
    have E_b_16 := EA_16
    refine Win.go st_16 ?_
    clear st_16 Ex_16 A_16 EA_16 g_16 X0 e0
    show Win p.tables e below _ (T_16.setTop (mkF m 12 #[.val (.int p0), .val (.int p1), .val (.int p2), .val (.int p3), .val (.int p4), .val (.int (0 : Int32)), .unset, .unset, .unset, .unset, .unset] [(.ref b_16)]))
    refine s_astore (pc' := 14) (l' := #[.val (.int p0), .val (.int p1), .val (.int p2), .val (.int p3), .val (.int p4), .val (.int (0 : Int32)), .val (.ref b_16), .unset, .unset, .unset, .unset]) X_16.here hx (hb hby at_12) rfl rfl rfl ?_
    refine s_iload (pc' := 16) X_16.here hx (hb hby at_14) rfl rfl ?_
    refine s_iconst (pc' := 17) (z := (1 : Int32)) X_16.here hx (hb hby at_16) rfl rfl ?_
    refine s_icmpYes (pc' := 26) X_16.here hx (hb hby at_17) (tltI (x := (0 : Int32)) (y := (1 : Int32)) (by decide)).1 (by decide) (by decide) ?_
    refine s_iload (pc' := 28) X_16.here hx (hb hby at_26) rfl rfl ?_
    refine s_iconst (pc' := 29) (z := (2 : Int32)) X_16.here hx (hb hby at_28) rfl rfl ?_
    refine s_icmpYes (pc' := 38) X_16.here hx (hb hby at_29) (tltI (x := (0 : Int32)) (y := (2 : Int32)) (by decide)).1 (by decide) (by decide) ?_
    refine s_iload (pc' := 40) X_16.here hx (hb hby at_38) rfl rfl ?_
    refine s_iconst (pc' := 41) (z := (3 : Int32)) X_16.here hx (hb hby at_40) rfl rfl ?_
    refine s_icmpYes (pc' := 50) X_16.here hx (hb hby at_41) (tltI (x := (0 : Int32)) (y := (3 : Int32)) (by decide)).1 (by decide) (by decide) ?_
    refine s_iload (pc' := 52) X_16.here hx (hb hby at_50) rfl rfl ?_
    refine s_iconst (pc' := 53) (z := (4 : Int32)) X_16.here hx (hb hby at_52) rfl rfl ?_
    refine s_icmpYes (pc' := 63) X_16.here hx (hb hby at_53) (tltI (x := (0 : Int32)) (y := (4 : Int32)) (by decide)).1 (by decide) (by decide) ?_
    refine s_aload (pc' := 65) X_16.here hx (hb hby at_63) rfl rfl rfl ?_
    obtain ⟨_, _, ⟨T_17, L_17, k_17, n_17⟩, -, X_17, ⟨Lc_17, hQ_17, l_17, y_17, z_17⟩, st_17⟩ := Jvm.LawKit.callS X_16 hx (y := (⟨"com/example/sextant/sextant/store/Dictionary", "hash", "([B)J"⟩ : MethodName)) hown (mvT hZ (hw _ (List.mem_of_getElem? (i := 2) rfl))) (mvT hZ (hw _ (List.mem_of_getElem? (i := 3) rfl))) (mvT hZ (hw _ (List.mem_of_getElem? (i := 4) rfl))) (mvT hZ (hw _ (List.mem_of_getElem? (i := 5) rfl))) (by decide) (backOf (W := 0) (rm1_0 l Z a0 hw [] b_16 k_16 h_16 n0 Zs V_b_16) hZ (hw _ (List.mem_of_getElem? (i := 5) rfl)) (hw _ (List.mem_of_getElem? (i := 4) rfl)) (by decide) (by decide)) (g := (mkF m 65 #[.val (.int p0), .val (.int p1), .val (.int p2), .val (.int p3), .val (.int p4), .val (.int (0 : Int32)), .val (.ref b_16), .unset, .unset, .unset, .unset] [(.ref b_16)])) rfl (by rw [hml]; rfl) (argsL := [(.ref b_16)]) (rest := []) (lenOf pd_0 rfl) rfl (by show 2 * 0 + _ ≤ _; exact Nat.le_of_eq rfl) (hb hby at_65) (fun _ _ => ⟨rfl, e_16, (by decide : 1 + 0 ≤ _), (by decide : 0 + 0 ≤ _)⟩)
    dsimp only [Pt.U, Pt.locs, Pt.cells, Pt.slots] at X_17 l_17 y_17 z_17 st_17 hQ_17
    subst l_17 y_17 z_17
    obtain ⟨Nq_17, e_17, rfl⟩ := hQ_17
    replace Nf := Fr.app Nf Nq_17
    refine Win.go st_17 ?_
    clear st_17 Nq_17 X_16 e_16
    show Win p.tables e below _ (T_17.setTop (mkF m 68 #[.val (.int p0), .val (.int p1), .val (.int p2), .val (.int p3), .val (.int p4), .val (.int (0 : Int32)), .val (.ref b_16), .unset, .unset, .unset, .unset] [(.long (hmix (-3750763034362895579 : Int64)))]))
    refine s_lstore (pc' := 70) (l' := #[.val (.int p0), .val (.int p1), .val (.int p2), .val (.int p3), .val (.int p4), .val (.int (0 : Int32)), .val (.ref b_16), .val (.long (hmix (-3750763034362895579 : Int64))), .second, .unset, .unset]) X_17.here hx (hb hby at_68) rfl rfl ?_
    generalize hx0 : (hmix (-3750763034362895579 : Int64)) = x0
    show Win p.tables e below _ (T_17.setTop (mkF m 70 #[.val (.int p0), .val (.int p1), .val (.int p2), .val (.int p3), .val (.int p4), .val (.int (0 : Int32)), .val (.ref b_16), .val (.long x0), .second, .unset, .unset] []))
    refine s_lload (pc' := 72) X_17.here hx (hb hby at_70) rfl rfl ?_
    refine s_lload (pc' := 74) X_17.here hx (hb hby at_72) rfl rfl ?_
    refine s_bipush (pc' := 76) (z := (33 : Int32)) X_17.here hx (hb hby at_74) rfl rfl ?_
    refine Win.go (fun _ k => XT.lushr X_17.here hx rfl (hb hby at_76) rfl k) ?_
    show Win p.tables e below _ (T_17.setTop (mkF m 77 #[.val (.int p0), .val (.int p1), .val (.int p2), .val (.int p3), .val (.int p4), .val (.int (0 : Int32)), .val (.ref b_16), .val (.long x0), .second, .unset, .unset] [(.long (XT.ushrL x0 (33 : Int32))), (.long x0)]))
    refine s_lxor (pc' := 78) X_17.here hx (hb hby at_77) rfl ?_
    refine s_lstore (pc' := 80) (l' := #[.val (.int p0), .val (.int p1), .val (.int p2), .val (.int p3), .val (.int p4), .val (.int (0 : Int32)), .val (.ref b_16), .val (.long (x0 ^^^ (XT.ushrL x0 (33 : Int32)))), .second, .unset, .unset]) X_17.here hx (hb hby at_78) rfl rfl ?_
    generalize hx1 : (x0 ^^^ (XT.ushrL x0 (33 : Int32))) = x1
    show Win p.tables e below _ (T_17.setTop (mkF m 80 #[.val (.int p0), .val (.int p1), .val (.int p2), .val (.int p3), .val (.int p4), .val (.int (0 : Int32)), .val (.ref b_16), .val (.long x1), .second, .unset, .unset] []))
    refine s_lload (pc' := 82) X_17.here hx (hb hby at_80) rfl rfl ?_
    refine Win.go (fun _ k => X_17.ldc2Long hx hown (mvT hZ (hw _ (List.mem_of_getElem? (i := 9) rfl))) (g := (mkF m 82 #[.val (.int p0), .val (.int p1), .val (.int p2), .val (.int p3), .val (.int p4), .val (.int (0 : Int32)), .val (.ref b_16), .val (.long x1), .second, .unset, .unset] [(.long x1)])) rfl (hb hby at_82) _ k) ?_
    show Win p.tables e below _ (T_17.setTop (mkF m 85 #[.val (.int p0), .val (.int p1), .val (.int p2), .val (.int p3), .val (.int p4), .val (.int (0 : Int32)), .val (.ref b_16), .val (.long x1), .second, .unset, .unset] [(.long (-4265267296055464877 : Int64)), (.long x1)]))
    obtain ⟨_, _, ⟨T_18, L_18, k_18, n_18⟩, -, X_18, ⟨Lc_18, hQ_18, l_18, y_18, z_18⟩, st_18⟩ := Jvm.LawKit.callS X_17 hx (y := (⟨"com/example/sextant/sextant/store/DictionaryHashPinLaw", "inverse", "(J)J"⟩ : MethodName)) hown (mvT hZ (hw _ (List.mem_of_getElem? (i := 10) rfl))) (mvT hZ (hw _ (List.mem_of_getElem? (i := 11) rfl))) (mvT hZ (hw _ (List.mem_of_getElem? (i := 12) rfl))) (mvT hZ (hw _ (List.mem_of_getElem? (i := 13) rfl))) (by decide) (backOf (W := 2) (rm2a l Z a0 hw []  h_16 n0 Zs ) hZ (hw _ (List.mem_of_getElem? (i := 13) rfl)) (hw _ (List.mem_of_getElem? (i := 12) rfl)) (by decide) (by decide)) (g := (mkF m 85 #[.val (.int p0), .val (.int p1), .val (.int p2), .val (.int p3), .val (.int p4), .val (.int (0 : Int32)), .val (.ref b_16), .val (.long x1), .second, .unset, .unset] [(.long (-4265267296055464877 : Int64)), (.long x1)])) rfl (by rw [hml]; rfl) (argsL := [(.long (-4265267296055464877 : Int64))]) (rest := [(.long x1)]) (lenOf pd_1 rfl) rfl (by show 2 * 0 + _ ≤ _; exact Nat.le_of_eq rfl) (hb hby at_85) (fun _ _ => ⟨rfl, e_17, (by decide : 1 + 0 ≤ _), (by decide : 0 + 0 ≤ _)⟩)
    dsimp only [Pt.U, Pt.locs, Pt.cells, Pt.slots] at X_18 l_18 y_18 z_18 st_18 hQ_18
    subst l_18 y_18 z_18
    obtain ⟨Nq_18, e_18, rfl⟩ := hQ_18
    replace Nf := Fr.app Nf Nq_18
    refine Win.go st_18 ?_
    clear st_18 Nq_18 X_17 e_17
    show Win p.tables e below _ (T_18.setTop (mkF m 88 #[.val (.int p0), .val (.int p1), .val (.int p2), .val (.int p3), .val (.int p4), .val (.int (0 : Int32)), .val (.ref b_16), .val (.long x1), .second, .unset, .unset] [(.long (-7154897129451604005 : Int64)), (.long x1)]))
    refine s_lmul (pc' := 89) X_18.here hx (hb hby at_88) rfl ?_
    refine s_lstore (pc' := 91) (l' := #[.val (.int p0), .val (.int p1), .val (.int p2), .val (.int p3), .val (.int p4), .val (.int (0 : Int32)), .val (.ref b_16), .val (.long (x1 * (-7154897129451604005 : Int64))), .second, .unset, .unset]) X_18.here hx (hb hby at_89) rfl rfl ?_
    generalize hx2 : (x1 * (-7154897129451604005 : Int64)) = x2
    show Win p.tables e below _ (T_18.setTop (mkF m 91 #[.val (.int p0), .val (.int p1), .val (.int p2), .val (.int p3), .val (.int p4), .val (.int (0 : Int32)), .val (.ref b_16), .val (.long x2), .second, .unset, .unset] []))
    refine s_lload (pc' := 93) X_18.here hx (hb hby at_91) rfl rfl ?_
    refine s_lload (pc' := 95) X_18.here hx (hb hby at_93) rfl rfl ?_
    refine s_bipush (pc' := 97) (z := (33 : Int32)) X_18.here hx (hb hby at_95) rfl rfl ?_
    refine Win.go (fun _ k => XT.lushr X_18.here hx rfl (hb hby at_97) rfl k) ?_
    show Win p.tables e below _ (T_18.setTop (mkF m 98 #[.val (.int p0), .val (.int p1), .val (.int p2), .val (.int p3), .val (.int p4), .val (.int (0 : Int32)), .val (.ref b_16), .val (.long x2), .second, .unset, .unset] [(.long (XT.ushrL x2 (33 : Int32))), (.long x2)]))
    refine s_lxor (pc' := 99) X_18.here hx (hb hby at_98) rfl ?_
    refine s_lstore (pc' := 101) (l' := #[.val (.int p0), .val (.int p1), .val (.int p2), .val (.int p3), .val (.int p4), .val (.int (0 : Int32)), .val (.ref b_16), .val (.long (x2 ^^^ (XT.ushrL x2 (33 : Int32)))), .second, .unset, .unset]) X_18.here hx (hb hby at_99) rfl rfl ?_
    generalize hx3 : (x2 ^^^ (XT.ushrL x2 (33 : Int32))) = x3
    show Win p.tables e below _ (T_18.setTop (mkF m 101 #[.val (.int p0), .val (.int p1), .val (.int p2), .val (.int p3), .val (.int p4), .val (.int (0 : Int32)), .val (.ref b_16), .val (.long x3), .second, .unset, .unset] []))
    refine s_lload (pc' := 103) X_18.here hx (hb hby at_101) rfl rfl ?_
    refine Win.go (fun _ k => X_18.ldc2Long hx hown (mvT hZ (hw _ (List.mem_of_getElem? (i := 15) rfl))) (g := (mkF m 103 #[.val (.int p0), .val (.int p1), .val (.int p2), .val (.int p3), .val (.int p4), .val (.int (0 : Int32)), .val (.ref b_16), .val (.long x3), .second, .unset, .unset] [(.long x3)])) rfl (hb hby at_103) _ k) ?_
    show Win p.tables e below _ (T_18.setTop (mkF m 106 #[.val (.int p0), .val (.int p1), .val (.int p2), .val (.int p3), .val (.int p4), .val (.int (0 : Int32)), .val (.ref b_16), .val (.long x3), .second, .unset, .unset] [(.long (-49064778989728563 : Int64)), (.long x3)]))
    obtain ⟨_, _, ⟨T_19, L_19, k_19, n_19⟩, -, X_19, ⟨Lc_19, hQ_19, l_19, y_19, z_19⟩, st_19⟩ := Jvm.LawKit.callS X_18 hx (y := (⟨"com/example/sextant/sextant/store/DictionaryHashPinLaw", "inverse", "(J)J"⟩ : MethodName)) hown (mvT hZ (hw _ (List.mem_of_getElem? (i := 10) rfl))) (mvT hZ (hw _ (List.mem_of_getElem? (i := 11) rfl))) (mvT hZ (hw _ (List.mem_of_getElem? (i := 12) rfl))) (mvT hZ (hw _ (List.mem_of_getElem? (i := 13) rfl))) (by decide) (backOf (W := 2) (rm2b l Z a0 hw []  h_16 n0 Zs ) hZ (hw _ (List.mem_of_getElem? (i := 13) rfl)) (hw _ (List.mem_of_getElem? (i := 12) rfl)) (by decide) (by decide)) (g := (mkF m 106 #[.val (.int p0), .val (.int p1), .val (.int p2), .val (.int p3), .val (.int p4), .val (.int (0 : Int32)), .val (.ref b_16), .val (.long x3), .second, .unset, .unset] [(.long (-49064778989728563 : Int64)), (.long x3)])) rfl (by rw [hml]; rfl) (argsL := [(.long (-49064778989728563 : Int64))]) (rest := [(.long x3)]) (lenOf pd_1 rfl) rfl (by show 2 * 0 + _ ≤ _; exact Nat.le_of_eq rfl) (hb hby at_106) (fun _ _ => ⟨rfl, e_18, (by decide : 1 + 0 ≤ _), (by decide : 0 + 0 ≤ _)⟩)
    dsimp only [Pt.U, Pt.locs, Pt.cells, Pt.slots] at X_19 l_19 y_19 z_19 st_19 hQ_19
    subst l_19 y_19 z_19
    obtain ⟨Nq_19, e_19, rfl⟩ := hQ_19
    replace Nf := Fr.app Nf Nq_19
    refine Win.go st_19 ?_
    clear st_19 Nq_19 X_18 e_18
    show Win p.tables e below _ (T_19.setTop (mkF m 109 #[.val (.int p0), .val (.int p1), .val (.int p2), .val (.int p3), .val (.int p4), .val (.int (0 : Int32)), .val (.ref b_16), .val (.long x3), .second, .unset, .unset] [(.long (5725274745694666757 : Int64)), (.long x3)]))
    refine s_lmul (pc' := 110) X_19.here hx (hb hby at_109) rfl ?_
    refine s_lstore (pc' := 112) (l' := #[.val (.int p0), .val (.int p1), .val (.int p2), .val (.int p3), .val (.int p4), .val (.int (0 : Int32)), .val (.ref b_16), .val (.long (x3 * (5725274745694666757 : Int64))), .second, .unset, .unset]) X_19.here hx (hb hby at_110) rfl rfl ?_
    generalize hx4 : (x3 * (5725274745694666757 : Int64)) = x4
    show Win p.tables e below _ (T_19.setTop (mkF m 112 #[.val (.int p0), .val (.int p1), .val (.int p2), .val (.int p3), .val (.int p4), .val (.int (0 : Int32)), .val (.ref b_16), .val (.long x4), .second, .unset, .unset] []))
    refine s_lload (pc' := 114) X_19.here hx (hb hby at_112) rfl rfl ?_
    refine s_lload (pc' := 116) X_19.here hx (hb hby at_114) rfl rfl ?_
    refine s_bipush (pc' := 118) (z := (33 : Int32)) X_19.here hx (hb hby at_116) rfl rfl ?_
    refine Win.go (fun _ k => XT.lushr X_19.here hx rfl (hb hby at_118) rfl k) ?_
    show Win p.tables e below _ (T_19.setTop (mkF m 119 #[.val (.int p0), .val (.int p1), .val (.int p2), .val (.int p3), .val (.int p4), .val (.int (0 : Int32)), .val (.ref b_16), .val (.long x4), .second, .unset, .unset] [(.long (XT.ushrL x4 (33 : Int32))), (.long x4)]))
    refine s_lxor (pc' := 120) X_19.here hx (hb hby at_119) rfl ?_
    refine s_lstore (pc' := 122) (l' := #[.val (.int p0), .val (.int p1), .val (.int p2), .val (.int p3), .val (.int p4), .val (.int (0 : Int32)), .val (.ref b_16), .val (.long (x4 ^^^ (XT.ushrL x4 (33 : Int32)))), .second, .unset, .unset]) X_19.here hx (hb hby at_120) rfl rfl ?_
    generalize hx5 : (x4 ^^^ (XT.ushrL x4 (33 : Int32))) = x5
    show Win p.tables e below _ (T_19.setTop (mkF m 122 #[.val (.int p0), .val (.int p1), .val (.int p2), .val (.int p3), .val (.int p4), .val (.int (0 : Int32)), .val (.ref b_16), .val (.long x5), .second, .unset, .unset] []))
    refine Win.go (fun _ k => X_19.ldc2Long hx hown (mvT hZ (hw _ (List.mem_of_getElem? (i := 16) rfl))) (g := (mkF m 122 #[.val (.int p0), .val (.int p1), .val (.int p2), .val (.int p3), .val (.int p4), .val (.int (0 : Int32)), .val (.ref b_16), .val (.long x5), .second, .unset, .unset] [])) rfl (hb hby at_122) _ k) ?_
    show Win p.tables e below _ (T_19.setTop (mkF m 125 #[.val (.int p0), .val (.int p1), .val (.int p2), .val (.int p3), .val (.int p4), .val (.int (0 : Int32)), .val (.ref b_16), .val (.long x5), .second, .unset, .unset] [(.long (1099511628211 : Int64))]))
    obtain ⟨_, _, ⟨T_20, L_20, k_20, n_20⟩, -, X_20, ⟨Lc_20, hQ_20, l_20, y_20, z_20⟩, st_20⟩ := Jvm.LawKit.callS X_19 hx (y := (⟨"com/example/sextant/sextant/store/DictionaryHashPinLaw", "inverse", "(J)J"⟩ : MethodName)) hown (mvT hZ (hw _ (List.mem_of_getElem? (i := 10) rfl))) (mvT hZ (hw _ (List.mem_of_getElem? (i := 11) rfl))) (mvT hZ (hw _ (List.mem_of_getElem? (i := 12) rfl))) (mvT hZ (hw _ (List.mem_of_getElem? (i := 13) rfl))) (by decide) (backOf (W := 0) (rm2c l Z a0 hw []  h_16 n0 Zs ) hZ (hw _ (List.mem_of_getElem? (i := 13) rfl)) (hw _ (List.mem_of_getElem? (i := 12) rfl)) (by decide) (by decide)) (g := (mkF m 125 #[.val (.int p0), .val (.int p1), .val (.int p2), .val (.int p3), .val (.int p4), .val (.int (0 : Int32)), .val (.ref b_16), .val (.long x5), .second, .unset, .unset] [(.long (1099511628211 : Int64))])) rfl (by rw [hml]; rfl) (argsL := [(.long (1099511628211 : Int64))]) (rest := []) (lenOf pd_1 rfl) rfl (by show 2 * 0 + _ ≤ _; exact Nat.le_of_eq rfl) (hb hby at_125) (fun _ _ => ⟨rfl, e_19, (by decide : 1 + 0 ≤ _), (by decide : 0 + 0 ≤ _)⟩)
    dsimp only [Pt.U, Pt.locs, Pt.cells, Pt.slots] at X_20 l_20 y_20 z_20 st_20 hQ_20
    subst l_20 y_20 z_20
    obtain ⟨Nq_20, e_20, rfl⟩ := hQ_20
    replace Nf := Fr.app Nf Nq_20
    refine Win.go st_20 ?_
    clear st_20 Nq_20 X_19 e_19
    show Win p.tables e below _ (T_20.setTop (mkF m 128 #[.val (.int p0), .val (.int p1), .val (.int p2), .val (.int p3), .val (.int p4), .val (.int (0 : Int32)), .val (.ref b_16), .val (.long x5), .second, .unset, .unset] [(.long (-3560570117845248645 : Int64))]))
    refine s_lstore (pc' := 130) (l' := #[.val (.int p0), .val (.int p1), .val (.int p2), .val (.int p3), .val (.int p4), .val (.int (0 : Int32)), .val (.ref b_16), .val (.long x5), .second, .val (.long (-3560570117845248645 : Int64)), .second]) X_20.here hx (hb hby at_128) rfl rfl ?_
    refine s_iload (pc' := 132) X_20.here hx (hb hby at_130) rfl rfl ?_
    refine s_iconst (pc' := 133) (z := (4 : Int32)) X_20.here hx (hb hby at_132) rfl rfl ?_
    refine s_icmpYes (pc' := 155) X_20.here hx (hb hby at_133) (tltI (x := (0 : Int32)) (y := (4 : Int32)) (by decide)).1 (by decide) (by decide) ?_
    refine s_iload (pc' := 157) X_20.here hx (hb hby at_155) rfl rfl ?_
    refine s_iconst (pc' := 158) (z := (3 : Int32)) X_20.here hx (hb hby at_157) rfl rfl ?_
    refine s_icmpYes (pc' := 179) X_20.here hx (hb hby at_158) (tltI (x := (0 : Int32)) (y := (3 : Int32)) (by decide)).1 (by decide) (by decide) ?_
    refine s_iload (pc' := 181) X_20.here hx (hb hby at_179) rfl rfl ?_
    refine s_iconst (pc' := 182) (z := (2 : Int32)) X_20.here hx (hb hby at_181) rfl rfl ?_
    refine s_icmpYes (pc' := 203) X_20.here hx (hb hby at_182) (tltI (x := (0 : Int32)) (y := (2 : Int32)) (by decide)).1 (by decide) (by decide) ?_
    refine s_iload (pc' := 205) X_20.here hx (hb hby at_203) rfl rfl ?_
    refine s_iconst (pc' := 206) (z := (1 : Int32)) X_20.here hx (hb hby at_205) rfl rfl ?_
    refine s_icmpYes (pc' := 227) X_20.here hx (hb hby at_206) (tltI (x := (0 : Int32)) (y := (1 : Int32)) (by decide)).1 (by decide) (by decide) ?_
    refine s_lload (pc' := 229) X_20.here hx (hb hby at_227) rfl rfl ?_
    refine Win.go (fun _ k => X_20.ldc2Long hx hown (mvT hZ (hw _ (List.mem_of_getElem? (i := 17) rfl))) (g := (mkF m 229 #[.val (.int p0), .val (.int p1), .val (.int p2), .val (.int p3), .val (.int p4), .val (.int (0 : Int32)), .val (.ref b_16), .val (.long x5), .second, .val (.long (-3560570117845248645 : Int64)), .second] [(.long x5)])) rfl (hb hby at_229) _ k) ?_
    show Win p.tables e below _ (T_20.setTop (mkF m 232 #[.val (.int p0), .val (.int p1), .val (.int p2), .val (.int p3), .val (.int p4), .val (.int (0 : Int32)), .val (.ref b_16), .val (.long x5), .second, .val (.long (-3560570117845248645 : Int64)), .second] [(.long (-3750763034362895579 : Int64)), (.long x5)]))
    refine s_lcmp (pc' := 233) X_20.here hx (hb hby at_232) rfl ?_
    by_cases hc233 : (x5).toInt = (-3750763034362895579 : Int)
    · skip
      refine s_ifNo (pc' := 236) X_20.here hx (hb hby at_233) rfl (teqL (x := x5) (y := (-3750763034362895579 : Int64)) hc233).2 ?_
      refine s_iconst (pc' := 237) (z := (1 : Int32)) X_20.here hx (hb hby at_236) rfl rfl ?_
      refine s_goto (pc' := 241) X_20.here hx (hb hby at_237) (by decide) (by decide) ?_
      refine winN X_20 hx hlk e_20 (t := .boolean) Bd.returns (by simp) (hb hby at_241) (by decide) (by decide) (z' := 1) rfl ⟨Nf, rfl⟩
    · skip
      refine s_ifYes (pc' := 240) X_20.here hx (hb hby at_233) (feqL (x := x5) (y := (-3750763034362895579 : Int64)) hc233).2 (by decide) (by decide) ?_
      refine s_iconst (pc' := 241) (z := (0 : Int32)) X_20.here hx (hb hby at_240) rfl rfl ?_
      exfalso
      have u : x5 = (-3750763034362895579 : Int64) := by rw [← hx5, ← hx4, ← hx3, ← hx2, ← hx1, ← hx0]; exact own_un _
      exact hc233 (congrArg Int64.toInt u)
  · skip
    show Win p.tables e below _ (s₁.setTop (mkF m 8 #[.val (.int p0), .val (.int p1), .val (.int p2), .val (.int p3), .val (.int p4), .val (.int (1 : Int32)), .unset, .unset, .unset, .unset, .unset] []))
    refine s_iload (pc' := 10) X0.here hx (hb hby at_8) rfl rfl ?_
    obtain ⟨T_21, h_21, k_21, X_21, e_21, Ex_21, A_21, EA_21, st_21⟩ := newPE X0 hx hZ (hw _ (List.mem_of_getElem? (i := 1) rfl)) e0 (g := (mkF m 10 #[.val (.int p0), .val (.int p1), .val (.int p2), .val (.int p3), .val (.int p4), .val (.int (1 : Int32)), .unset, .unset, .unset, .unset, .unset] [(.int (1 : Int32))])) rfl (hb hby at_10) rfl (by decide) (cap := 1) (by decide) (by decide) (by decide) (by decide) (ad := "[B") (by decide)
    obtain ⟨b_21, g_21⟩ : ∃ z, z = h0.size := ⟨_, rfl⟩
    have g_b_21 : n0 ≤ b_21 := Nat.le_trans Zs (Nat.le_of_eq g_21.symm)
    rw [← g_21] at A_21 EA_21 st_21
    replace Zs := Nat.le_trans Zs Ex_21.1
    have V_b_21 : Arv Z h_21 b_21 k_21 .byte (1 : Int32) [(.int (0 : Int32))] (.int (0 : Int32)) := (Arv.new A_21 (by decide)).pad (pad_rep [] (.int (0 : Int32)) 1)
    have lt_b_21 := V_b_21.lt
    have E_b_21 := EA_21
    refine Win.go st_21 ?_
    clear st_21 Ex_21 A_21 EA_21 g_21 X0 e0
    show Win p.tables e below _ (T_21.setTop (mkF m 12 #[.val (.int p0), .val (.int p1), .val (.int p2), .val (.int p3), .val (.int p4), .val (.int (1 : Int32)), .unset, .unset, .unset, .unset, .unset] [(.ref b_21)]))
    refine s_astore (pc' := 14) (l' := #[.val (.int p0), .val (.int p1), .val (.int p2), .val (.int p3), .val (.int p4), .val (.int (1 : Int32)), .val (.ref b_21), .unset, .unset, .unset, .unset]) X_21.here hx (hb hby at_12) rfl rfl rfl ?_
    refine s_iload (pc' := 16) X_21.here hx (hb hby at_14) rfl rfl ?_
    refine s_iconst (pc' := 17) (z := (1 : Int32)) X_21.here hx (hb hby at_16) rfl rfl ?_
    refine s_icmpNo (pc' := 20) X_21.here hx (hb hby at_17) rfl (fltI (x := (1 : Int32)) (y := (1 : Int32)) (by decide)).1 ?_
    refine s_aload (pc' := 22) X_21.here hx (hb hby at_20) rfl rfl rfl ?_
    refine s_iconst (pc' := 23) (z := (0 : Int32)) X_21.here hx (hb hby at_22) rfl rfl ?_
    refine s_iloadN (pc' := 24) X_21.here hx (hb hby at_23) rfl rfl ?_
    refine Win.go (fun _ k => XS.i2b X_21.here hx rfl (hb hby at_24) rfl k) ?_
    show Win p.tables e below _ (T_21.setTop (mkF m 25 #[.val (.int p0), .val (.int p1), .val (.int p2), .val (.int p3), .val (.int p4), .val (.int (1 : Int32)), .val (.ref b_21), .unset, .unset, .unset, .unset] [(.int (p1.toInt8.toInt32)), (.int (0 : Int32)), (.ref b_21)]))
    obtain ⟨cl_22, Ar_22, q_22, S_22, N_22, H_22, G_22⟩ := V_b_21
    obtain ⟨T_22, h_22, X_22, e_22, W_22, st_22⟩ := stB X_21 hx hZ e_21 Ar_22 (j := (0 : Int32)) (inb_of S_22 ⟨by decide, by decide⟩) (g := (mkF m 25 #[.val (.int p0), .val (.int p1), .val (.int p2), .val (.int p3), .val (.int p4), .val (.int (1 : Int32)), .val (.ref b_21), .unset, .unset, .unset, .unset] [(.int (p1.toInt8.toInt32)), (.int (0 : Int32)), (.ref b_21)])) rfl rfl (hb hby at_25)
    have V_22 := Arv.set Ar_22 q_22 S_22 N_22 H_22 G_22 (fits_nar_byte _) W_22 0 rfl (Nat.le_of_ble_eq_true rfl)
    replace E_b_21 := E_b_21.wr W_22
    replace lt_b_21 := Nat.lt_of_lt_of_le lt_b_21 (Keep.of_wr W_22).1
    replace Zs := Nat.le_trans Zs (Keep.of_wr W_22).1
    replace V_b_21 : Arv Z h_22 b_21 k_21 .byte (1 : Int32) [(.int (nar .byte (p1.toInt8.toInt32)))] (.int (0 : Int32)) := V_22
    replace Nf := Fr.snoc X_22 Nf g_b_21
    refine Win.go st_22 ?_
    clear st_22 W_22 V_22 Ar_22 q_22 S_22 N_22 H_22 G_22 X_21 e_21
    show Win p.tables e below _ (T_22.setTop (mkF m 26 #[.val (.int p0), .val (.int p1), .val (.int p2), .val (.int p3), .val (.int p4), .val (.int (1 : Int32)), .val (.ref b_21), .unset, .unset, .unset, .unset] []))
    refine s_iload (pc' := 28) X_22.here hx (hb hby at_26) rfl rfl ?_
    refine s_iconst (pc' := 29) (z := (2 : Int32)) X_22.here hx (hb hby at_28) rfl rfl ?_
    refine s_icmpYes (pc' := 38) X_22.here hx (hb hby at_29) (tltI (x := (1 : Int32)) (y := (2 : Int32)) (by decide)).1 (by decide) (by decide) ?_
    refine s_iload (pc' := 40) X_22.here hx (hb hby at_38) rfl rfl ?_
    refine s_iconst (pc' := 41) (z := (3 : Int32)) X_22.here hx (hb hby at_40) rfl rfl ?_
    refine s_icmpYes (pc' := 50) X_22.here hx (hb hby at_41) (tltI (x := (1 : Int32)) (y := (3 : Int32)) (by decide)).1 (by decide) (by decide) ?_
    refine s_iload (pc' := 52) X_22.here hx (hb hby at_50) rfl rfl ?_
    refine s_iconst (pc' := 53) (z := (4 : Int32)) X_22.here hx (hb hby at_52) rfl rfl ?_
    refine s_icmpYes (pc' := 63) X_22.here hx (hb hby at_53) (tltI (x := (1 : Int32)) (y := (4 : Int32)) (by decide)).1 (by decide) (by decide) ?_
    refine s_aload (pc' := 65) X_22.here hx (hb hby at_63) rfl rfl rfl ?_
    obtain ⟨_, _, ⟨T_23, L_23, k_23, n_23⟩, -, X_23, ⟨Lc_23, hQ_23, l_23, y_23, z_23⟩, st_23⟩ := Jvm.LawKit.callS X_22 hx (y := (⟨"com/example/sextant/sextant/store/Dictionary", "hash", "([B)J"⟩ : MethodName)) hown (mvT hZ (hw _ (List.mem_of_getElem? (i := 2) rfl))) (mvT hZ (hw _ (List.mem_of_getElem? (i := 3) rfl))) (mvT hZ (hw _ (List.mem_of_getElem? (i := 4) rfl))) (mvT hZ (hw _ (List.mem_of_getElem? (i := 5) rfl))) (by decide) (backOf (W := 0) (rm1_1 l Z a0 hw [] b_21 k_21 (nar .byte (p1.toInt8.toInt32)) h_22 n0 Zs V_b_21) hZ (hw _ (List.mem_of_getElem? (i := 5) rfl)) (hw _ (List.mem_of_getElem? (i := 4) rfl)) (by decide) (by decide)) (g := (mkF m 65 #[.val (.int p0), .val (.int p1), .val (.int p2), .val (.int p3), .val (.int p4), .val (.int (1 : Int32)), .val (.ref b_21), .unset, .unset, .unset, .unset] [(.ref b_21)])) rfl (by rw [hml]; rfl) (argsL := [(.ref b_21)]) (rest := []) (lenOf pd_0 rfl) rfl (by show 2 * 0 + _ ≤ _; exact Nat.le_of_eq rfl) (hb hby at_65) (fun _ _ => ⟨rfl, e_22, (by decide : 1 + 0 ≤ _), (by decide : 1 + 0 ≤ _)⟩)
    dsimp only [Pt.U, Pt.locs, Pt.cells, Pt.slots] at X_23 l_23 y_23 z_23 st_23 hQ_23
    subst l_23 y_23 z_23
    obtain ⟨Nq_23, e_23, rfl⟩ := hQ_23
    replace Nf := Fr.app Nf Nq_23
    refine Win.go st_23 ?_
    clear st_23 Nq_23 X_22 e_22
    show Win p.tables e below _ (T_23.setTop (mkF m 68 #[.val (.int p0), .val (.int p1), .val (.int p2), .val (.int p3), .val (.int p4), .val (.int (1 : Int32)), .val (.ref b_21), .unset, .unset, .unset, .unset] [(.long (hmix (hstep (-3750763034362895579 : Int64) (nar .byte (p1.toInt8.toInt32)))))]))
    refine s_lstore (pc' := 70) (l' := #[.val (.int p0), .val (.int p1), .val (.int p2), .val (.int p3), .val (.int p4), .val (.int (1 : Int32)), .val (.ref b_21), .val (.long (hmix (hstep (-3750763034362895579 : Int64) (nar .byte (p1.toInt8.toInt32))))), .second, .unset, .unset]) X_23.here hx (hb hby at_68) rfl rfl ?_
    generalize hx0 : (hmix (hstep (-3750763034362895579 : Int64) (nar .byte (p1.toInt8.toInt32)))) = x0
    show Win p.tables e below _ (T_23.setTop (mkF m 70 #[.val (.int p0), .val (.int p1), .val (.int p2), .val (.int p3), .val (.int p4), .val (.int (1 : Int32)), .val (.ref b_21), .val (.long x0), .second, .unset, .unset] []))
    refine s_lload (pc' := 72) X_23.here hx (hb hby at_70) rfl rfl ?_
    refine s_lload (pc' := 74) X_23.here hx (hb hby at_72) rfl rfl ?_
    refine s_bipush (pc' := 76) (z := (33 : Int32)) X_23.here hx (hb hby at_74) rfl rfl ?_
    refine Win.go (fun _ k => XT.lushr X_23.here hx rfl (hb hby at_76) rfl k) ?_
    show Win p.tables e below _ (T_23.setTop (mkF m 77 #[.val (.int p0), .val (.int p1), .val (.int p2), .val (.int p3), .val (.int p4), .val (.int (1 : Int32)), .val (.ref b_21), .val (.long x0), .second, .unset, .unset] [(.long (XT.ushrL x0 (33 : Int32))), (.long x0)]))
    refine s_lxor (pc' := 78) X_23.here hx (hb hby at_77) rfl ?_
    refine s_lstore (pc' := 80) (l' := #[.val (.int p0), .val (.int p1), .val (.int p2), .val (.int p3), .val (.int p4), .val (.int (1 : Int32)), .val (.ref b_21), .val (.long (x0 ^^^ (XT.ushrL x0 (33 : Int32)))), .second, .unset, .unset]) X_23.here hx (hb hby at_78) rfl rfl ?_
    generalize hx1 : (x0 ^^^ (XT.ushrL x0 (33 : Int32))) = x1
    show Win p.tables e below _ (T_23.setTop (mkF m 80 #[.val (.int p0), .val (.int p1), .val (.int p2), .val (.int p3), .val (.int p4), .val (.int (1 : Int32)), .val (.ref b_21), .val (.long x1), .second, .unset, .unset] []))
    refine s_lload (pc' := 82) X_23.here hx (hb hby at_80) rfl rfl ?_
    refine Win.go (fun _ k => X_23.ldc2Long hx hown (mvT hZ (hw _ (List.mem_of_getElem? (i := 9) rfl))) (g := (mkF m 82 #[.val (.int p0), .val (.int p1), .val (.int p2), .val (.int p3), .val (.int p4), .val (.int (1 : Int32)), .val (.ref b_21), .val (.long x1), .second, .unset, .unset] [(.long x1)])) rfl (hb hby at_82) _ k) ?_
    show Win p.tables e below _ (T_23.setTop (mkF m 85 #[.val (.int p0), .val (.int p1), .val (.int p2), .val (.int p3), .val (.int p4), .val (.int (1 : Int32)), .val (.ref b_21), .val (.long x1), .second, .unset, .unset] [(.long (-4265267296055464877 : Int64)), (.long x1)]))
    obtain ⟨_, _, ⟨T_24, L_24, k_24, n_24⟩, -, X_24, ⟨Lc_24, hQ_24, l_24, y_24, z_24⟩, st_24⟩ := Jvm.LawKit.callS X_23 hx (y := (⟨"com/example/sextant/sextant/store/DictionaryHashPinLaw", "inverse", "(J)J"⟩ : MethodName)) hown (mvT hZ (hw _ (List.mem_of_getElem? (i := 10) rfl))) (mvT hZ (hw _ (List.mem_of_getElem? (i := 11) rfl))) (mvT hZ (hw _ (List.mem_of_getElem? (i := 12) rfl))) (mvT hZ (hw _ (List.mem_of_getElem? (i := 13) rfl))) (by decide) (backOf (W := 2) (rm2a l Z a0 hw []  h_22 n0 Zs ) hZ (hw _ (List.mem_of_getElem? (i := 13) rfl)) (hw _ (List.mem_of_getElem? (i := 12) rfl)) (by decide) (by decide)) (g := (mkF m 85 #[.val (.int p0), .val (.int p1), .val (.int p2), .val (.int p3), .val (.int p4), .val (.int (1 : Int32)), .val (.ref b_21), .val (.long x1), .second, .unset, .unset] [(.long (-4265267296055464877 : Int64)), (.long x1)])) rfl (by rw [hml]; rfl) (argsL := [(.long (-4265267296055464877 : Int64))]) (rest := [(.long x1)]) (lenOf pd_1 rfl) rfl (by show 2 * 0 + _ ≤ _; exact Nat.le_of_eq rfl) (hb hby at_85) (fun _ _ => ⟨rfl, e_23, (by decide : 1 + 0 ≤ _), (by decide : 1 + 0 ≤ _)⟩)
    dsimp only [Pt.U, Pt.locs, Pt.cells, Pt.slots] at X_24 l_24 y_24 z_24 st_24 hQ_24
    subst l_24 y_24 z_24
    obtain ⟨Nq_24, e_24, rfl⟩ := hQ_24
    replace Nf := Fr.app Nf Nq_24
    refine Win.go st_24 ?_
    clear st_24 Nq_24 X_23 e_23
    show Win p.tables e below _ (T_24.setTop (mkF m 88 #[.val (.int p0), .val (.int p1), .val (.int p2), .val (.int p3), .val (.int p4), .val (.int (1 : Int32)), .val (.ref b_21), .val (.long x1), .second, .unset, .unset] [(.long (-7154897129451604005 : Int64)), (.long x1)]))
    refine s_lmul (pc' := 89) X_24.here hx (hb hby at_88) rfl ?_
    refine s_lstore (pc' := 91) (l' := #[.val (.int p0), .val (.int p1), .val (.int p2), .val (.int p3), .val (.int p4), .val (.int (1 : Int32)), .val (.ref b_21), .val (.long (x1 * (-7154897129451604005 : Int64))), .second, .unset, .unset]) X_24.here hx (hb hby at_89) rfl rfl ?_
    generalize hx2 : (x1 * (-7154897129451604005 : Int64)) = x2
    show Win p.tables e below _ (T_24.setTop (mkF m 91 #[.val (.int p0), .val (.int p1), .val (.int p2), .val (.int p3), .val (.int p4), .val (.int (1 : Int32)), .val (.ref b_21), .val (.long x2), .second, .unset, .unset] []))
    refine s_lload (pc' := 93) X_24.here hx (hb hby at_91) rfl rfl ?_
    refine s_lload (pc' := 95) X_24.here hx (hb hby at_93) rfl rfl ?_
    refine s_bipush (pc' := 97) (z := (33 : Int32)) X_24.here hx (hb hby at_95) rfl rfl ?_
    refine Win.go (fun _ k => XT.lushr X_24.here hx rfl (hb hby at_97) rfl k) ?_
    show Win p.tables e below _ (T_24.setTop (mkF m 98 #[.val (.int p0), .val (.int p1), .val (.int p2), .val (.int p3), .val (.int p4), .val (.int (1 : Int32)), .val (.ref b_21), .val (.long x2), .second, .unset, .unset] [(.long (XT.ushrL x2 (33 : Int32))), (.long x2)]))
    refine s_lxor (pc' := 99) X_24.here hx (hb hby at_98) rfl ?_
    refine s_lstore (pc' := 101) (l' := #[.val (.int p0), .val (.int p1), .val (.int p2), .val (.int p3), .val (.int p4), .val (.int (1 : Int32)), .val (.ref b_21), .val (.long (x2 ^^^ (XT.ushrL x2 (33 : Int32)))), .second, .unset, .unset]) X_24.here hx (hb hby at_99) rfl rfl ?_
    generalize hx3 : (x2 ^^^ (XT.ushrL x2 (33 : Int32))) = x3
    show Win p.tables e below _ (T_24.setTop (mkF m 101 #[.val (.int p0), .val (.int p1), .val (.int p2), .val (.int p3), .val (.int p4), .val (.int (1 : Int32)), .val (.ref b_21), .val (.long x3), .second, .unset, .unset] []))
    refine s_lload (pc' := 103) X_24.here hx (hb hby at_101) rfl rfl ?_
    refine Win.go (fun _ k => X_24.ldc2Long hx hown (mvT hZ (hw _ (List.mem_of_getElem? (i := 15) rfl))) (g := (mkF m 103 #[.val (.int p0), .val (.int p1), .val (.int p2), .val (.int p3), .val (.int p4), .val (.int (1 : Int32)), .val (.ref b_21), .val (.long x3), .second, .unset, .unset] [(.long x3)])) rfl (hb hby at_103) _ k) ?_
    show Win p.tables e below _ (T_24.setTop (mkF m 106 #[.val (.int p0), .val (.int p1), .val (.int p2), .val (.int p3), .val (.int p4), .val (.int (1 : Int32)), .val (.ref b_21), .val (.long x3), .second, .unset, .unset] [(.long (-49064778989728563 : Int64)), (.long x3)]))
    obtain ⟨_, _, ⟨T_25, L_25, k_25, n_25⟩, -, X_25, ⟨Lc_25, hQ_25, l_25, y_25, z_25⟩, st_25⟩ := Jvm.LawKit.callS X_24 hx (y := (⟨"com/example/sextant/sextant/store/DictionaryHashPinLaw", "inverse", "(J)J"⟩ : MethodName)) hown (mvT hZ (hw _ (List.mem_of_getElem? (i := 10) rfl))) (mvT hZ (hw _ (List.mem_of_getElem? (i := 11) rfl))) (mvT hZ (hw _ (List.mem_of_getElem? (i := 12) rfl))) (mvT hZ (hw _ (List.mem_of_getElem? (i := 13) rfl))) (by decide) (backOf (W := 2) (rm2b l Z a0 hw []  h_22 n0 Zs ) hZ (hw _ (List.mem_of_getElem? (i := 13) rfl)) (hw _ (List.mem_of_getElem? (i := 12) rfl)) (by decide) (by decide)) (g := (mkF m 106 #[.val (.int p0), .val (.int p1), .val (.int p2), .val (.int p3), .val (.int p4), .val (.int (1 : Int32)), .val (.ref b_21), .val (.long x3), .second, .unset, .unset] [(.long (-49064778989728563 : Int64)), (.long x3)])) rfl (by rw [hml]; rfl) (argsL := [(.long (-49064778989728563 : Int64))]) (rest := [(.long x3)]) (lenOf pd_1 rfl) rfl (by show 2 * 0 + _ ≤ _; exact Nat.le_of_eq rfl) (hb hby at_106) (fun _ _ => ⟨rfl, e_24, (by decide : 1 + 0 ≤ _), (by decide : 1 + 0 ≤ _)⟩)
    dsimp only [Pt.U, Pt.locs, Pt.cells, Pt.slots] at X_25 l_25 y_25 z_25 st_25 hQ_25
    subst l_25 y_25 z_25
    obtain ⟨Nq_25, e_25, rfl⟩ := hQ_25
    replace Nf := Fr.app Nf Nq_25
    refine Win.go st_25 ?_
    clear st_25 Nq_25 X_24 e_24
    show Win p.tables e below _ (T_25.setTop (mkF m 109 #[.val (.int p0), .val (.int p1), .val (.int p2), .val (.int p3), .val (.int p4), .val (.int (1 : Int32)), .val (.ref b_21), .val (.long x3), .second, .unset, .unset] [(.long (5725274745694666757 : Int64)), (.long x3)]))
    refine s_lmul (pc' := 110) X_25.here hx (hb hby at_109) rfl ?_
    refine s_lstore (pc' := 112) (l' := #[.val (.int p0), .val (.int p1), .val (.int p2), .val (.int p3), .val (.int p4), .val (.int (1 : Int32)), .val (.ref b_21), .val (.long (x3 * (5725274745694666757 : Int64))), .second, .unset, .unset]) X_25.here hx (hb hby at_110) rfl rfl ?_
    generalize hx4 : (x3 * (5725274745694666757 : Int64)) = x4
    show Win p.tables e below _ (T_25.setTop (mkF m 112 #[.val (.int p0), .val (.int p1), .val (.int p2), .val (.int p3), .val (.int p4), .val (.int (1 : Int32)), .val (.ref b_21), .val (.long x4), .second, .unset, .unset] []))
    refine s_lload (pc' := 114) X_25.here hx (hb hby at_112) rfl rfl ?_
    refine s_lload (pc' := 116) X_25.here hx (hb hby at_114) rfl rfl ?_
    refine s_bipush (pc' := 118) (z := (33 : Int32)) X_25.here hx (hb hby at_116) rfl rfl ?_
    refine Win.go (fun _ k => XT.lushr X_25.here hx rfl (hb hby at_118) rfl k) ?_
    show Win p.tables e below _ (T_25.setTop (mkF m 119 #[.val (.int p0), .val (.int p1), .val (.int p2), .val (.int p3), .val (.int p4), .val (.int (1 : Int32)), .val (.ref b_21), .val (.long x4), .second, .unset, .unset] [(.long (XT.ushrL x4 (33 : Int32))), (.long x4)]))
    refine s_lxor (pc' := 120) X_25.here hx (hb hby at_119) rfl ?_
    refine s_lstore (pc' := 122) (l' := #[.val (.int p0), .val (.int p1), .val (.int p2), .val (.int p3), .val (.int p4), .val (.int (1 : Int32)), .val (.ref b_21), .val (.long (x4 ^^^ (XT.ushrL x4 (33 : Int32)))), .second, .unset, .unset]) X_25.here hx (hb hby at_120) rfl rfl ?_
    generalize hx5 : (x4 ^^^ (XT.ushrL x4 (33 : Int32))) = x5
    show Win p.tables e below _ (T_25.setTop (mkF m 122 #[.val (.int p0), .val (.int p1), .val (.int p2), .val (.int p3), .val (.int p4), .val (.int (1 : Int32)), .val (.ref b_21), .val (.long x5), .second, .unset, .unset] []))
    refine Win.go (fun _ k => X_25.ldc2Long hx hown (mvT hZ (hw _ (List.mem_of_getElem? (i := 16) rfl))) (g := (mkF m 122 #[.val (.int p0), .val (.int p1), .val (.int p2), .val (.int p3), .val (.int p4), .val (.int (1 : Int32)), .val (.ref b_21), .val (.long x5), .second, .unset, .unset] [])) rfl (hb hby at_122) _ k) ?_
    show Win p.tables e below _ (T_25.setTop (mkF m 125 #[.val (.int p0), .val (.int p1), .val (.int p2), .val (.int p3), .val (.int p4), .val (.int (1 : Int32)), .val (.ref b_21), .val (.long x5), .second, .unset, .unset] [(.long (1099511628211 : Int64))]))
    obtain ⟨_, _, ⟨T_26, L_26, k_26, n_26⟩, -, X_26, ⟨Lc_26, hQ_26, l_26, y_26, z_26⟩, st_26⟩ := Jvm.LawKit.callS X_25 hx (y := (⟨"com/example/sextant/sextant/store/DictionaryHashPinLaw", "inverse", "(J)J"⟩ : MethodName)) hown (mvT hZ (hw _ (List.mem_of_getElem? (i := 10) rfl))) (mvT hZ (hw _ (List.mem_of_getElem? (i := 11) rfl))) (mvT hZ (hw _ (List.mem_of_getElem? (i := 12) rfl))) (mvT hZ (hw _ (List.mem_of_getElem? (i := 13) rfl))) (by decide) (backOf (W := 0) (rm2c l Z a0 hw []  h_22 n0 Zs ) hZ (hw _ (List.mem_of_getElem? (i := 13) rfl)) (hw _ (List.mem_of_getElem? (i := 12) rfl)) (by decide) (by decide)) (g := (mkF m 125 #[.val (.int p0), .val (.int p1), .val (.int p2), .val (.int p3), .val (.int p4), .val (.int (1 : Int32)), .val (.ref b_21), .val (.long x5), .second, .unset, .unset] [(.long (1099511628211 : Int64))])) rfl (by rw [hml]; rfl) (argsL := [(.long (1099511628211 : Int64))]) (rest := []) (lenOf pd_1 rfl) rfl (by show 2 * 0 + _ ≤ _; exact Nat.le_of_eq rfl) (hb hby at_125) (fun _ _ => ⟨rfl, e_25, (by decide : 1 + 0 ≤ _), (by decide : 1 + 0 ≤ _)⟩)
    dsimp only [Pt.U, Pt.locs, Pt.cells, Pt.slots] at X_26 l_26 y_26 z_26 st_26 hQ_26
    subst l_26 y_26 z_26
    obtain ⟨Nq_26, e_26, rfl⟩ := hQ_26
    replace Nf := Fr.app Nf Nq_26
    refine Win.go st_26 ?_
    clear st_26 Nq_26 X_25 e_25
    show Win p.tables e below _ (T_26.setTop (mkF m 128 #[.val (.int p0), .val (.int p1), .val (.int p2), .val (.int p3), .val (.int p4), .val (.int (1 : Int32)), .val (.ref b_21), .val (.long x5), .second, .unset, .unset] [(.long (-3560570117845248645 : Int64))]))
    refine s_lstore (pc' := 130) (l' := #[.val (.int p0), .val (.int p1), .val (.int p2), .val (.int p3), .val (.int p4), .val (.int (1 : Int32)), .val (.ref b_21), .val (.long x5), .second, .val (.long (-3560570117845248645 : Int64)), .second]) X_26.here hx (hb hby at_128) rfl rfl ?_
    refine s_iload (pc' := 132) X_26.here hx (hb hby at_130) rfl rfl ?_
    refine s_iconst (pc' := 133) (z := (4 : Int32)) X_26.here hx (hb hby at_132) rfl rfl ?_
    refine s_icmpYes (pc' := 155) X_26.here hx (hb hby at_133) (tltI (x := (1 : Int32)) (y := (4 : Int32)) (by decide)).1 (by decide) (by decide) ?_
    refine s_iload (pc' := 157) X_26.here hx (hb hby at_155) rfl rfl ?_
    refine s_iconst (pc' := 158) (z := (3 : Int32)) X_26.here hx (hb hby at_157) rfl rfl ?_
    refine s_icmpYes (pc' := 179) X_26.here hx (hb hby at_158) (tltI (x := (1 : Int32)) (y := (3 : Int32)) (by decide)).1 (by decide) (by decide) ?_
    refine s_iload (pc' := 181) X_26.here hx (hb hby at_179) rfl rfl ?_
    refine s_iconst (pc' := 182) (z := (2 : Int32)) X_26.here hx (hb hby at_181) rfl rfl ?_
    refine s_icmpYes (pc' := 203) X_26.here hx (hb hby at_182) (tltI (x := (1 : Int32)) (y := (2 : Int32)) (by decide)).1 (by decide) (by decide) ?_
    refine s_iload (pc' := 205) X_26.here hx (hb hby at_203) rfl rfl ?_
    refine s_iconst (pc' := 206) (z := (1 : Int32)) X_26.here hx (hb hby at_205) rfl rfl ?_
    refine s_icmpNo (pc' := 209) X_26.here hx (hb hby at_206) rfl (fltI (x := (1 : Int32)) (y := (1 : Int32)) (by decide)).1 ?_
    refine s_lload (pc' := 211) X_26.here hx (hb hby at_209) rfl rfl ?_
    refine s_lload (pc' := 213) X_26.here hx (hb hby at_211) rfl rfl ?_
    refine s_lmul (pc' := 214) X_26.here hx (hb hby at_213) rfl ?_
    refine s_lstore (pc' := 216) (l' := #[.val (.int p0), .val (.int p1), .val (.int p2), .val (.int p3), .val (.int p4), .val (.int (1 : Int32)), .val (.ref b_21), .val (.long (x5 * (-3560570117845248645 : Int64))), .second, .val (.long (-3560570117845248645 : Int64)), .second]) X_26.here hx (hb hby at_214) rfl rfl ?_
    generalize hy1 : (x5 * (-3560570117845248645 : Int64)) = y1
    show Win p.tables e below _ (T_26.setTop (mkF m 216 #[.val (.int p0), .val (.int p1), .val (.int p2), .val (.int p3), .val (.int p4), .val (.int (1 : Int32)), .val (.ref b_21), .val (.long y1), .second, .val (.long (-3560570117845248645 : Int64)), .second] []))
    refine s_lload (pc' := 218) X_26.here hx (hb hby at_216) rfl rfl ?_
    refine s_iloadN (pc' := 219) X_26.here hx (hb hby at_218) rfl rfl ?_
    refine s_sipush (pc' := 222) (z := (255 : Int32)) X_26.here hx (hb hby at_219) rfl rfl ?_
    refine s_iand (pc' := 223) X_26.here hx (hb hby at_222) rfl ?_
    refine Win.go (fun _ k => XS.i2l X_26.here hx rfl (hb hby at_223) rfl k) ?_
    show Win p.tables e below _ (T_26.setTop (mkF m 224 #[.val (.int p0), .val (.int p1), .val (.int p2), .val (.int p3), .val (.int p4), .val (.int (1 : Int32)), .val (.ref b_21), .val (.long y1), .second, .val (.long (-3560570117845248645 : Int64)), .second] [(.long ((p1 &&& (255 : Int32)).toInt64)), (.long y1)]))
    refine s_lxor (pc' := 225) X_26.here hx (hb hby at_224) rfl ?_
    refine s_lstore (pc' := 227) (l' := #[.val (.int p0), .val (.int p1), .val (.int p2), .val (.int p3), .val (.int p4), .val (.int (1 : Int32)), .val (.ref b_21), .val (.long (y1 ^^^ ((p1 &&& (255 : Int32)).toInt64))), .second, .val (.long (-3560570117845248645 : Int64)), .second]) X_26.here hx (hb hby at_225) rfl rfl ?_
    generalize hz1 : (y1 ^^^ ((p1 &&& (255 : Int32)).toInt64)) = z1
    show Win p.tables e below _ (T_26.setTop (mkF m 227 #[.val (.int p0), .val (.int p1), .val (.int p2), .val (.int p3), .val (.int p4), .val (.int (1 : Int32)), .val (.ref b_21), .val (.long z1), .second, .val (.long (-3560570117845248645 : Int64)), .second] []))
    refine s_lload (pc' := 229) X_26.here hx (hb hby at_227) rfl rfl ?_
    refine Win.go (fun _ k => X_26.ldc2Long hx hown (mvT hZ (hw _ (List.mem_of_getElem? (i := 17) rfl))) (g := (mkF m 229 #[.val (.int p0), .val (.int p1), .val (.int p2), .val (.int p3), .val (.int p4), .val (.int (1 : Int32)), .val (.ref b_21), .val (.long z1), .second, .val (.long (-3560570117845248645 : Int64)), .second] [(.long z1)])) rfl (hb hby at_229) _ k) ?_
    show Win p.tables e below _ (T_26.setTop (mkF m 232 #[.val (.int p0), .val (.int p1), .val (.int p2), .val (.int p3), .val (.int p4), .val (.int (1 : Int32)), .val (.ref b_21), .val (.long z1), .second, .val (.long (-3560570117845248645 : Int64)), .second] [(.long (-3750763034362895579 : Int64)), (.long z1)]))
    refine s_lcmp (pc' := 233) X_26.here hx (hb hby at_232) rfl ?_
    by_cases hc233 : (z1).toInt = (-3750763034362895579 : Int)
    · skip
      refine s_ifNo (pc' := 236) X_26.here hx (hb hby at_233) rfl (teqL (x := z1) (y := (-3750763034362895579 : Int64)) hc233).2 ?_
      refine s_iconst (pc' := 237) (z := (1 : Int32)) X_26.here hx (hb hby at_236) rfl rfl ?_
      refine s_goto (pc' := 241) X_26.here hx (hb hby at_237) (by decide) (by decide) ?_
      refine winN X_26 hx hlk e_26 (t := .boolean) Bd.returns (by simp) (hb hby at_241) (by decide) (by decide) (z' := 1) rfl ⟨Nf, rfl⟩
    · skip
      refine s_ifYes (pc' := 240) X_26.here hx (hb hby at_233) (feqL (x := z1) (y := (-3750763034362895579 : Int64)) hc233).2 (by decide) (by decide) ?_
      refine s_iconst (pc' := 241) (z := (0 : Int32)) X_26.here hx (hb hby at_240) rfl rfl ?_
      exfalso
      have u : x5 = (hstep (-3750763034362895579 : Int64) (nar .byte (p1.toInt8.toInt32))) := by rw [← hx5, ← hx4, ← hx3, ← hx2, ← hx1, ← hx0]; exact own_un _
      have u1 : z1 = (-3750763034362895579 : Int64) := by rw [← hz1, ← hy1, u]; exact own_peel _ _
      exact hc233 (congrArg Int64.toInt u1)
  · skip
    show Win p.tables e below _ (s₁.setTop (mkF m 8 #[.val (.int p0), .val (.int p1), .val (.int p2), .val (.int p3), .val (.int p4), .val (.int (2 : Int32)), .unset, .unset, .unset, .unset, .unset] []))
    refine s_iload (pc' := 10) X0.here hx (hb hby at_8) rfl rfl ?_
    obtain ⟨T_27, h_27, k_27, X_27, e_27, Ex_27, A_27, EA_27, st_27⟩ := newPE X0 hx hZ (hw _ (List.mem_of_getElem? (i := 1) rfl)) e0 (g := (mkF m 10 #[.val (.int p0), .val (.int p1), .val (.int p2), .val (.int p3), .val (.int p4), .val (.int (2 : Int32)), .unset, .unset, .unset, .unset, .unset] [(.int (2 : Int32))])) rfl (hb hby at_10) rfl (by decide) (cap := 2) (by decide) (by decide) (by decide) (by decide) (ad := "[B") (by decide)
    obtain ⟨b_27, g_27⟩ : ∃ z, z = h0.size := ⟨_, rfl⟩
    have g_b_27 : n0 ≤ b_27 := Nat.le_trans Zs (Nat.le_of_eq g_27.symm)
    rw [← g_27] at A_27 EA_27 st_27
    replace Zs := Nat.le_trans Zs Ex_27.1
    have V_b_27 : Arv Z h_27 b_27 k_27 .byte (2 : Int32) [(.int (0 : Int32)), (.int (0 : Int32))] (.int (0 : Int32)) := (Arv.new A_27 (by decide)).pad (pad_rep [] (.int (0 : Int32)) 2)
    have lt_b_27 := V_b_27.lt
    have E_b_27 := EA_27
    refine Win.go st_27 ?_
    clear st_27 Ex_27 A_27 EA_27 g_27 X0 e0
    show Win p.tables e below _ (T_27.setTop (mkF m 12 #[.val (.int p0), .val (.int p1), .val (.int p2), .val (.int p3), .val (.int p4), .val (.int (2 : Int32)), .unset, .unset, .unset, .unset, .unset] [(.ref b_27)]))
    refine s_astore (pc' := 14) (l' := #[.val (.int p0), .val (.int p1), .val (.int p2), .val (.int p3), .val (.int p4), .val (.int (2 : Int32)), .val (.ref b_27), .unset, .unset, .unset, .unset]) X_27.here hx (hb hby at_12) rfl rfl rfl ?_
    refine s_iload (pc' := 16) X_27.here hx (hb hby at_14) rfl rfl ?_
    refine s_iconst (pc' := 17) (z := (1 : Int32)) X_27.here hx (hb hby at_16) rfl rfl ?_
    refine s_icmpNo (pc' := 20) X_27.here hx (hb hby at_17) rfl (fltI (x := (2 : Int32)) (y := (1 : Int32)) (by decide)).1 ?_
    refine s_aload (pc' := 22) X_27.here hx (hb hby at_20) rfl rfl rfl ?_
    refine s_iconst (pc' := 23) (z := (0 : Int32)) X_27.here hx (hb hby at_22) rfl rfl ?_
    refine s_iloadN (pc' := 24) X_27.here hx (hb hby at_23) rfl rfl ?_
    refine Win.go (fun _ k => XS.i2b X_27.here hx rfl (hb hby at_24) rfl k) ?_
    show Win p.tables e below _ (T_27.setTop (mkF m 25 #[.val (.int p0), .val (.int p1), .val (.int p2), .val (.int p3), .val (.int p4), .val (.int (2 : Int32)), .val (.ref b_27), .unset, .unset, .unset, .unset] [(.int (p1.toInt8.toInt32)), (.int (0 : Int32)), (.ref b_27)]))
    obtain ⟨cl_28, Ar_28, q_28, S_28, N_28, H_28, G_28⟩ := V_b_27
    obtain ⟨T_28, h_28, X_28, e_28, W_28, st_28⟩ := stB X_27 hx hZ e_27 Ar_28 (j := (0 : Int32)) (inb_of S_28 ⟨by decide, by decide⟩) (g := (mkF m 25 #[.val (.int p0), .val (.int p1), .val (.int p2), .val (.int p3), .val (.int p4), .val (.int (2 : Int32)), .val (.ref b_27), .unset, .unset, .unset, .unset] [(.int (p1.toInt8.toInt32)), (.int (0 : Int32)), (.ref b_27)])) rfl rfl (hb hby at_25)
    have V_28 := Arv.set Ar_28 q_28 S_28 N_28 H_28 G_28 (fits_nar_byte _) W_28 0 rfl (Nat.le_of_ble_eq_true rfl)
    replace E_b_27 := E_b_27.wr W_28
    replace lt_b_27 := Nat.lt_of_lt_of_le lt_b_27 (Keep.of_wr W_28).1
    replace Zs := Nat.le_trans Zs (Keep.of_wr W_28).1
    replace V_b_27 : Arv Z h_28 b_27 k_27 .byte (2 : Int32) [(.int (nar .byte (p1.toInt8.toInt32))), (.int (0 : Int32))] (.int (0 : Int32)) := V_28
    replace Nf := Fr.snoc X_28 Nf g_b_27
    refine Win.go st_28 ?_
    clear st_28 W_28 V_28 Ar_28 q_28 S_28 N_28 H_28 G_28 X_27 e_27
    show Win p.tables e below _ (T_28.setTop (mkF m 26 #[.val (.int p0), .val (.int p1), .val (.int p2), .val (.int p3), .val (.int p4), .val (.int (2 : Int32)), .val (.ref b_27), .unset, .unset, .unset, .unset] []))
    refine s_iload (pc' := 28) X_28.here hx (hb hby at_26) rfl rfl ?_
    refine s_iconst (pc' := 29) (z := (2 : Int32)) X_28.here hx (hb hby at_28) rfl rfl ?_
    refine s_icmpNo (pc' := 32) X_28.here hx (hb hby at_29) rfl (fltI (x := (2 : Int32)) (y := (2 : Int32)) (by decide)).1 ?_
    refine s_aload (pc' := 34) X_28.here hx (hb hby at_32) rfl rfl rfl ?_
    refine s_iconst (pc' := 35) (z := (1 : Int32)) X_28.here hx (hb hby at_34) rfl rfl ?_
    refine s_iloadN (pc' := 36) X_28.here hx (hb hby at_35) rfl rfl ?_
    refine Win.go (fun _ k => XS.i2b X_28.here hx rfl (hb hby at_36) rfl k) ?_
    show Win p.tables e below _ (T_28.setTop (mkF m 37 #[.val (.int p0), .val (.int p1), .val (.int p2), .val (.int p3), .val (.int p4), .val (.int (2 : Int32)), .val (.ref b_27), .unset, .unset, .unset, .unset] [(.int (p2.toInt8.toInt32)), (.int (1 : Int32)), (.ref b_27)]))
    obtain ⟨cl_29, Ar_29, q_29, S_29, N_29, H_29, G_29⟩ := V_b_27
    obtain ⟨T_29, h_29, X_29, e_29, W_29, st_29⟩ := stB X_28 hx hZ e_28 Ar_29 (j := (1 : Int32)) (inb_of S_29 ⟨by decide, by decide⟩) (g := (mkF m 37 #[.val (.int p0), .val (.int p1), .val (.int p2), .val (.int p3), .val (.int p4), .val (.int (2 : Int32)), .val (.ref b_27), .unset, .unset, .unset, .unset] [(.int (p2.toInt8.toInt32)), (.int (1 : Int32)), (.ref b_27)])) rfl rfl (hb hby at_37)
    have V_29 := Arv.set Ar_29 q_29 S_29 N_29 H_29 G_29 (fits_nar_byte _) W_29 1 rfl (Nat.le_of_ble_eq_true rfl)
    replace E_b_27 := E_b_27.wr W_29
    replace lt_b_27 := Nat.lt_of_lt_of_le lt_b_27 (Keep.of_wr W_29).1
    replace Zs := Nat.le_trans Zs (Keep.of_wr W_29).1
    replace V_b_27 : Arv Z h_29 b_27 k_27 .byte (2 : Int32) [(.int (nar .byte (p1.toInt8.toInt32))), (.int (nar .byte (p2.toInt8.toInt32)))] (.int (0 : Int32)) := V_29
    replace Nf := Fr.snoc X_29 Nf g_b_27
    refine Win.go st_29 ?_
    clear st_29 W_29 V_29 Ar_29 q_29 S_29 N_29 H_29 G_29 X_28 e_28
    show Win p.tables e below _ (T_29.setTop (mkF m 38 #[.val (.int p0), .val (.int p1), .val (.int p2), .val (.int p3), .val (.int p4), .val (.int (2 : Int32)), .val (.ref b_27), .unset, .unset, .unset, .unset] []))
    refine s_iload (pc' := 40) X_29.here hx (hb hby at_38) rfl rfl ?_
    refine s_iconst (pc' := 41) (z := (3 : Int32)) X_29.here hx (hb hby at_40) rfl rfl ?_
    refine s_icmpYes (pc' := 50) X_29.here hx (hb hby at_41) (tltI (x := (2 : Int32)) (y := (3 : Int32)) (by decide)).1 (by decide) (by decide) ?_
    refine s_iload (pc' := 52) X_29.here hx (hb hby at_50) rfl rfl ?_
    refine s_iconst (pc' := 53) (z := (4 : Int32)) X_29.here hx (hb hby at_52) rfl rfl ?_
    refine s_icmpYes (pc' := 63) X_29.here hx (hb hby at_53) (tltI (x := (2 : Int32)) (y := (4 : Int32)) (by decide)).1 (by decide) (by decide) ?_
    refine s_aload (pc' := 65) X_29.here hx (hb hby at_63) rfl rfl rfl ?_
    obtain ⟨_, _, ⟨T_30, L_30, k_30, n_30⟩, -, X_30, ⟨Lc_30, hQ_30, l_30, y_30, z_30⟩, st_30⟩ := Jvm.LawKit.callS X_29 hx (y := (⟨"com/example/sextant/sextant/store/Dictionary", "hash", "([B)J"⟩ : MethodName)) hown (mvT hZ (hw _ (List.mem_of_getElem? (i := 2) rfl))) (mvT hZ (hw _ (List.mem_of_getElem? (i := 3) rfl))) (mvT hZ (hw _ (List.mem_of_getElem? (i := 4) rfl))) (mvT hZ (hw _ (List.mem_of_getElem? (i := 5) rfl))) (by decide) (backOf (W := 0) (rm1_2 l Z a0 hw [] b_27 k_27 (nar .byte (p1.toInt8.toInt32)) (nar .byte (p2.toInt8.toInt32)) h_29 n0 Zs V_b_27) hZ (hw _ (List.mem_of_getElem? (i := 5) rfl)) (hw _ (List.mem_of_getElem? (i := 4) rfl)) (by decide) (by decide)) (g := (mkF m 65 #[.val (.int p0), .val (.int p1), .val (.int p2), .val (.int p3), .val (.int p4), .val (.int (2 : Int32)), .val (.ref b_27), .unset, .unset, .unset, .unset] [(.ref b_27)])) rfl (by rw [hml]; rfl) (argsL := [(.ref b_27)]) (rest := []) (lenOf pd_0 rfl) rfl (by show 2 * 0 + _ ≤ _; exact Nat.le_of_eq rfl) (hb hby at_65) (fun _ _ => ⟨rfl, e_29, (by decide : 1 + 0 ≤ _), (by decide : 2 + 0 ≤ _)⟩)
    dsimp only [Pt.U, Pt.locs, Pt.cells, Pt.slots] at X_30 l_30 y_30 z_30 st_30 hQ_30
    subst l_30 y_30 z_30
    obtain ⟨Nq_30, e_30, rfl⟩ := hQ_30
    replace Nf := Fr.app Nf Nq_30
    refine Win.go st_30 ?_
    clear st_30 Nq_30 X_29 e_29
    show Win p.tables e below _ (T_30.setTop (mkF m 68 #[.val (.int p0), .val (.int p1), .val (.int p2), .val (.int p3), .val (.int p4), .val (.int (2 : Int32)), .val (.ref b_27), .unset, .unset, .unset, .unset] [(.long (hmix (hstep (hstep (-3750763034362895579 : Int64) (nar .byte (p1.toInt8.toInt32))) (nar .byte (p2.toInt8.toInt32)))))]))
    refine s_lstore (pc' := 70) (l' := #[.val (.int p0), .val (.int p1), .val (.int p2), .val (.int p3), .val (.int p4), .val (.int (2 : Int32)), .val (.ref b_27), .val (.long (hmix (hstep (hstep (-3750763034362895579 : Int64) (nar .byte (p1.toInt8.toInt32))) (nar .byte (p2.toInt8.toInt32))))), .second, .unset, .unset]) X_30.here hx (hb hby at_68) rfl rfl ?_
    generalize hx0 : (hmix (hstep (hstep (-3750763034362895579 : Int64) (nar .byte (p1.toInt8.toInt32))) (nar .byte (p2.toInt8.toInt32)))) = x0
    show Win p.tables e below _ (T_30.setTop (mkF m 70 #[.val (.int p0), .val (.int p1), .val (.int p2), .val (.int p3), .val (.int p4), .val (.int (2 : Int32)), .val (.ref b_27), .val (.long x0), .second, .unset, .unset] []))
    refine s_lload (pc' := 72) X_30.here hx (hb hby at_70) rfl rfl ?_
    refine s_lload (pc' := 74) X_30.here hx (hb hby at_72) rfl rfl ?_
    refine s_bipush (pc' := 76) (z := (33 : Int32)) X_30.here hx (hb hby at_74) rfl rfl ?_
    refine Win.go (fun _ k => XT.lushr X_30.here hx rfl (hb hby at_76) rfl k) ?_
    show Win p.tables e below _ (T_30.setTop (mkF m 77 #[.val (.int p0), .val (.int p1), .val (.int p2), .val (.int p3), .val (.int p4), .val (.int (2 : Int32)), .val (.ref b_27), .val (.long x0), .second, .unset, .unset] [(.long (XT.ushrL x0 (33 : Int32))), (.long x0)]))
    refine s_lxor (pc' := 78) X_30.here hx (hb hby at_77) rfl ?_
    refine s_lstore (pc' := 80) (l' := #[.val (.int p0), .val (.int p1), .val (.int p2), .val (.int p3), .val (.int p4), .val (.int (2 : Int32)), .val (.ref b_27), .val (.long (x0 ^^^ (XT.ushrL x0 (33 : Int32)))), .second, .unset, .unset]) X_30.here hx (hb hby at_78) rfl rfl ?_
    generalize hx1 : (x0 ^^^ (XT.ushrL x0 (33 : Int32))) = x1
    show Win p.tables e below _ (T_30.setTop (mkF m 80 #[.val (.int p0), .val (.int p1), .val (.int p2), .val (.int p3), .val (.int p4), .val (.int (2 : Int32)), .val (.ref b_27), .val (.long x1), .second, .unset, .unset] []))
    refine s_lload (pc' := 82) X_30.here hx (hb hby at_80) rfl rfl ?_
    refine Win.go (fun _ k => X_30.ldc2Long hx hown (mvT hZ (hw _ (List.mem_of_getElem? (i := 9) rfl))) (g := (mkF m 82 #[.val (.int p0), .val (.int p1), .val (.int p2), .val (.int p3), .val (.int p4), .val (.int (2 : Int32)), .val (.ref b_27), .val (.long x1), .second, .unset, .unset] [(.long x1)])) rfl (hb hby at_82) _ k) ?_
    show Win p.tables e below _ (T_30.setTop (mkF m 85 #[.val (.int p0), .val (.int p1), .val (.int p2), .val (.int p3), .val (.int p4), .val (.int (2 : Int32)), .val (.ref b_27), .val (.long x1), .second, .unset, .unset] [(.long (-4265267296055464877 : Int64)), (.long x1)]))
    obtain ⟨_, _, ⟨T_31, L_31, k_31, n_31⟩, -, X_31, ⟨Lc_31, hQ_31, l_31, y_31, z_31⟩, st_31⟩ := Jvm.LawKit.callS X_30 hx (y := (⟨"com/example/sextant/sextant/store/DictionaryHashPinLaw", "inverse", "(J)J"⟩ : MethodName)) hown (mvT hZ (hw _ (List.mem_of_getElem? (i := 10) rfl))) (mvT hZ (hw _ (List.mem_of_getElem? (i := 11) rfl))) (mvT hZ (hw _ (List.mem_of_getElem? (i := 12) rfl))) (mvT hZ (hw _ (List.mem_of_getElem? (i := 13) rfl))) (by decide) (backOf (W := 2) (rm2a l Z a0 hw []  h_29 n0 Zs ) hZ (hw _ (List.mem_of_getElem? (i := 13) rfl)) (hw _ (List.mem_of_getElem? (i := 12) rfl)) (by decide) (by decide)) (g := (mkF m 85 #[.val (.int p0), .val (.int p1), .val (.int p2), .val (.int p3), .val (.int p4), .val (.int (2 : Int32)), .val (.ref b_27), .val (.long x1), .second, .unset, .unset] [(.long (-4265267296055464877 : Int64)), (.long x1)])) rfl (by rw [hml]; rfl) (argsL := [(.long (-4265267296055464877 : Int64))]) (rest := [(.long x1)]) (lenOf pd_1 rfl) rfl (by show 2 * 0 + _ ≤ _; exact Nat.le_of_eq rfl) (hb hby at_85) (fun _ _ => ⟨rfl, e_30, (by decide : 1 + 0 ≤ _), (by decide : 2 + 0 ≤ _)⟩)
    dsimp only [Pt.U, Pt.locs, Pt.cells, Pt.slots] at X_31 l_31 y_31 z_31 st_31 hQ_31
    subst l_31 y_31 z_31
    obtain ⟨Nq_31, e_31, rfl⟩ := hQ_31
    replace Nf := Fr.app Nf Nq_31
    refine Win.go st_31 ?_
    clear st_31 Nq_31 X_30 e_30
    show Win p.tables e below _ (T_31.setTop (mkF m 88 #[.val (.int p0), .val (.int p1), .val (.int p2), .val (.int p3), .val (.int p4), .val (.int (2 : Int32)), .val (.ref b_27), .val (.long x1), .second, .unset, .unset] [(.long (-7154897129451604005 : Int64)), (.long x1)]))
    refine s_lmul (pc' := 89) X_31.here hx (hb hby at_88) rfl ?_
    refine s_lstore (pc' := 91) (l' := #[.val (.int p0), .val (.int p1), .val (.int p2), .val (.int p3), .val (.int p4), .val (.int (2 : Int32)), .val (.ref b_27), .val (.long (x1 * (-7154897129451604005 : Int64))), .second, .unset, .unset]) X_31.here hx (hb hby at_89) rfl rfl ?_
    generalize hx2 : (x1 * (-7154897129451604005 : Int64)) = x2
    show Win p.tables e below _ (T_31.setTop (mkF m 91 #[.val (.int p0), .val (.int p1), .val (.int p2), .val (.int p3), .val (.int p4), .val (.int (2 : Int32)), .val (.ref b_27), .val (.long x2), .second, .unset, .unset] []))
    refine s_lload (pc' := 93) X_31.here hx (hb hby at_91) rfl rfl ?_
    refine s_lload (pc' := 95) X_31.here hx (hb hby at_93) rfl rfl ?_
    refine s_bipush (pc' := 97) (z := (33 : Int32)) X_31.here hx (hb hby at_95) rfl rfl ?_
    refine Win.go (fun _ k => XT.lushr X_31.here hx rfl (hb hby at_97) rfl k) ?_
    show Win p.tables e below _ (T_31.setTop (mkF m 98 #[.val (.int p0), .val (.int p1), .val (.int p2), .val (.int p3), .val (.int p4), .val (.int (2 : Int32)), .val (.ref b_27), .val (.long x2), .second, .unset, .unset] [(.long (XT.ushrL x2 (33 : Int32))), (.long x2)]))
    refine s_lxor (pc' := 99) X_31.here hx (hb hby at_98) rfl ?_
    refine s_lstore (pc' := 101) (l' := #[.val (.int p0), .val (.int p1), .val (.int p2), .val (.int p3), .val (.int p4), .val (.int (2 : Int32)), .val (.ref b_27), .val (.long (x2 ^^^ (XT.ushrL x2 (33 : Int32)))), .second, .unset, .unset]) X_31.here hx (hb hby at_99) rfl rfl ?_
    generalize hx3 : (x2 ^^^ (XT.ushrL x2 (33 : Int32))) = x3
    show Win p.tables e below _ (T_31.setTop (mkF m 101 #[.val (.int p0), .val (.int p1), .val (.int p2), .val (.int p3), .val (.int p4), .val (.int (2 : Int32)), .val (.ref b_27), .val (.long x3), .second, .unset, .unset] []))
    refine s_lload (pc' := 103) X_31.here hx (hb hby at_101) rfl rfl ?_
    refine Win.go (fun _ k => X_31.ldc2Long hx hown (mvT hZ (hw _ (List.mem_of_getElem? (i := 15) rfl))) (g := (mkF m 103 #[.val (.int p0), .val (.int p1), .val (.int p2), .val (.int p3), .val (.int p4), .val (.int (2 : Int32)), .val (.ref b_27), .val (.long x3), .second, .unset, .unset] [(.long x3)])) rfl (hb hby at_103) _ k) ?_
    show Win p.tables e below _ (T_31.setTop (mkF m 106 #[.val (.int p0), .val (.int p1), .val (.int p2), .val (.int p3), .val (.int p4), .val (.int (2 : Int32)), .val (.ref b_27), .val (.long x3), .second, .unset, .unset] [(.long (-49064778989728563 : Int64)), (.long x3)]))
    obtain ⟨_, _, ⟨T_32, L_32, k_32, n_32⟩, -, X_32, ⟨Lc_32, hQ_32, l_32, y_32, z_32⟩, st_32⟩ := Jvm.LawKit.callS X_31 hx (y := (⟨"com/example/sextant/sextant/store/DictionaryHashPinLaw", "inverse", "(J)J"⟩ : MethodName)) hown (mvT hZ (hw _ (List.mem_of_getElem? (i := 10) rfl))) (mvT hZ (hw _ (List.mem_of_getElem? (i := 11) rfl))) (mvT hZ (hw _ (List.mem_of_getElem? (i := 12) rfl))) (mvT hZ (hw _ (List.mem_of_getElem? (i := 13) rfl))) (by decide) (backOf (W := 2) (rm2b l Z a0 hw []  h_29 n0 Zs ) hZ (hw _ (List.mem_of_getElem? (i := 13) rfl)) (hw _ (List.mem_of_getElem? (i := 12) rfl)) (by decide) (by decide)) (g := (mkF m 106 #[.val (.int p0), .val (.int p1), .val (.int p2), .val (.int p3), .val (.int p4), .val (.int (2 : Int32)), .val (.ref b_27), .val (.long x3), .second, .unset, .unset] [(.long (-49064778989728563 : Int64)), (.long x3)])) rfl (by rw [hml]; rfl) (argsL := [(.long (-49064778989728563 : Int64))]) (rest := [(.long x3)]) (lenOf pd_1 rfl) rfl (by show 2 * 0 + _ ≤ _; exact Nat.le_of_eq rfl) (hb hby at_106) (fun _ _ => ⟨rfl, e_31, (by decide : 1 + 0 ≤ _), (by decide : 2 + 0 ≤ _)⟩)
    dsimp only [Pt.U, Pt.locs, Pt.cells, Pt.slots] at X_32 l_32 y_32 z_32 st_32 hQ_32
    subst l_32 y_32 z_32
    obtain ⟨Nq_32, e_32, rfl⟩ := hQ_32
    replace Nf := Fr.app Nf Nq_32
    refine Win.go st_32 ?_
    clear st_32 Nq_32 X_31 e_31
    show Win p.tables e below _ (T_32.setTop (mkF m 109 #[.val (.int p0), .val (.int p1), .val (.int p2), .val (.int p3), .val (.int p4), .val (.int (2 : Int32)), .val (.ref b_27), .val (.long x3), .second, .unset, .unset] [(.long (5725274745694666757 : Int64)), (.long x3)]))
    refine s_lmul (pc' := 110) X_32.here hx (hb hby at_109) rfl ?_
    refine s_lstore (pc' := 112) (l' := #[.val (.int p0), .val (.int p1), .val (.int p2), .val (.int p3), .val (.int p4), .val (.int (2 : Int32)), .val (.ref b_27), .val (.long (x3 * (5725274745694666757 : Int64))), .second, .unset, .unset]) X_32.here hx (hb hby at_110) rfl rfl ?_
    generalize hx4 : (x3 * (5725274745694666757 : Int64)) = x4
    show Win p.tables e below _ (T_32.setTop (mkF m 112 #[.val (.int p0), .val (.int p1), .val (.int p2), .val (.int p3), .val (.int p4), .val (.int (2 : Int32)), .val (.ref b_27), .val (.long x4), .second, .unset, .unset] []))
    refine s_lload (pc' := 114) X_32.here hx (hb hby at_112) rfl rfl ?_
    refine s_lload (pc' := 116) X_32.here hx (hb hby at_114) rfl rfl ?_
    refine s_bipush (pc' := 118) (z := (33 : Int32)) X_32.here hx (hb hby at_116) rfl rfl ?_
    refine Win.go (fun _ k => XT.lushr X_32.here hx rfl (hb hby at_118) rfl k) ?_
    show Win p.tables e below _ (T_32.setTop (mkF m 119 #[.val (.int p0), .val (.int p1), .val (.int p2), .val (.int p3), .val (.int p4), .val (.int (2 : Int32)), .val (.ref b_27), .val (.long x4), .second, .unset, .unset] [(.long (XT.ushrL x4 (33 : Int32))), (.long x4)]))
    refine s_lxor (pc' := 120) X_32.here hx (hb hby at_119) rfl ?_
    refine s_lstore (pc' := 122) (l' := #[.val (.int p0), .val (.int p1), .val (.int p2), .val (.int p3), .val (.int p4), .val (.int (2 : Int32)), .val (.ref b_27), .val (.long (x4 ^^^ (XT.ushrL x4 (33 : Int32)))), .second, .unset, .unset]) X_32.here hx (hb hby at_120) rfl rfl ?_
    generalize hx5 : (x4 ^^^ (XT.ushrL x4 (33 : Int32))) = x5
    show Win p.tables e below _ (T_32.setTop (mkF m 122 #[.val (.int p0), .val (.int p1), .val (.int p2), .val (.int p3), .val (.int p4), .val (.int (2 : Int32)), .val (.ref b_27), .val (.long x5), .second, .unset, .unset] []))
    refine Win.go (fun _ k => X_32.ldc2Long hx hown (mvT hZ (hw _ (List.mem_of_getElem? (i := 16) rfl))) (g := (mkF m 122 #[.val (.int p0), .val (.int p1), .val (.int p2), .val (.int p3), .val (.int p4), .val (.int (2 : Int32)), .val (.ref b_27), .val (.long x5), .second, .unset, .unset] [])) rfl (hb hby at_122) _ k) ?_
    show Win p.tables e below _ (T_32.setTop (mkF m 125 #[.val (.int p0), .val (.int p1), .val (.int p2), .val (.int p3), .val (.int p4), .val (.int (2 : Int32)), .val (.ref b_27), .val (.long x5), .second, .unset, .unset] [(.long (1099511628211 : Int64))]))
    obtain ⟨_, _, ⟨T_33, L_33, k_33, n_33⟩, -, X_33, ⟨Lc_33, hQ_33, l_33, y_33, z_33⟩, st_33⟩ := Jvm.LawKit.callS X_32 hx (y := (⟨"com/example/sextant/sextant/store/DictionaryHashPinLaw", "inverse", "(J)J"⟩ : MethodName)) hown (mvT hZ (hw _ (List.mem_of_getElem? (i := 10) rfl))) (mvT hZ (hw _ (List.mem_of_getElem? (i := 11) rfl))) (mvT hZ (hw _ (List.mem_of_getElem? (i := 12) rfl))) (mvT hZ (hw _ (List.mem_of_getElem? (i := 13) rfl))) (by decide) (backOf (W := 0) (rm2c l Z a0 hw []  h_29 n0 Zs ) hZ (hw _ (List.mem_of_getElem? (i := 13) rfl)) (hw _ (List.mem_of_getElem? (i := 12) rfl)) (by decide) (by decide)) (g := (mkF m 125 #[.val (.int p0), .val (.int p1), .val (.int p2), .val (.int p3), .val (.int p4), .val (.int (2 : Int32)), .val (.ref b_27), .val (.long x5), .second, .unset, .unset] [(.long (1099511628211 : Int64))])) rfl (by rw [hml]; rfl) (argsL := [(.long (1099511628211 : Int64))]) (rest := []) (lenOf pd_1 rfl) rfl (by show 2 * 0 + _ ≤ _; exact Nat.le_of_eq rfl) (hb hby at_125) (fun _ _ => ⟨rfl, e_32, (by decide : 1 + 0 ≤ _), (by decide : 2 + 0 ≤ _)⟩)
    dsimp only [Pt.U, Pt.locs, Pt.cells, Pt.slots] at X_33 l_33 y_33 z_33 st_33 hQ_33
    subst l_33 y_33 z_33
    obtain ⟨Nq_33, e_33, rfl⟩ := hQ_33
    replace Nf := Fr.app Nf Nq_33
    refine Win.go st_33 ?_
    clear st_33 Nq_33 X_32 e_32
    show Win p.tables e below _ (T_33.setTop (mkF m 128 #[.val (.int p0), .val (.int p1), .val (.int p2), .val (.int p3), .val (.int p4), .val (.int (2 : Int32)), .val (.ref b_27), .val (.long x5), .second, .unset, .unset] [(.long (-3560570117845248645 : Int64))]))
    refine s_lstore (pc' := 130) (l' := #[.val (.int p0), .val (.int p1), .val (.int p2), .val (.int p3), .val (.int p4), .val (.int (2 : Int32)), .val (.ref b_27), .val (.long x5), .second, .val (.long (-3560570117845248645 : Int64)), .second]) X_33.here hx (hb hby at_128) rfl rfl ?_
    refine s_iload (pc' := 132) X_33.here hx (hb hby at_130) rfl rfl ?_
    refine s_iconst (pc' := 133) (z := (4 : Int32)) X_33.here hx (hb hby at_132) rfl rfl ?_
    refine s_icmpYes (pc' := 155) X_33.here hx (hb hby at_133) (tltI (x := (2 : Int32)) (y := (4 : Int32)) (by decide)).1 (by decide) (by decide) ?_
    refine s_iload (pc' := 157) X_33.here hx (hb hby at_155) rfl rfl ?_
    refine s_iconst (pc' := 158) (z := (3 : Int32)) X_33.here hx (hb hby at_157) rfl rfl ?_
    refine s_icmpYes (pc' := 179) X_33.here hx (hb hby at_158) (tltI (x := (2 : Int32)) (y := (3 : Int32)) (by decide)).1 (by decide) (by decide) ?_
    refine s_iload (pc' := 181) X_33.here hx (hb hby at_179) rfl rfl ?_
    refine s_iconst (pc' := 182) (z := (2 : Int32)) X_33.here hx (hb hby at_181) rfl rfl ?_
    refine s_icmpNo (pc' := 185) X_33.here hx (hb hby at_182) rfl (fltI (x := (2 : Int32)) (y := (2 : Int32)) (by decide)).1 ?_
    refine s_lload (pc' := 187) X_33.here hx (hb hby at_185) rfl rfl ?_
    refine s_lload (pc' := 189) X_33.here hx (hb hby at_187) rfl rfl ?_
    refine s_lmul (pc' := 190) X_33.here hx (hb hby at_189) rfl ?_
    refine s_lstore (pc' := 192) (l' := #[.val (.int p0), .val (.int p1), .val (.int p2), .val (.int p3), .val (.int p4), .val (.int (2 : Int32)), .val (.ref b_27), .val (.long (x5 * (-3560570117845248645 : Int64))), .second, .val (.long (-3560570117845248645 : Int64)), .second]) X_33.here hx (hb hby at_190) rfl rfl ?_
    generalize hy2 : (x5 * (-3560570117845248645 : Int64)) = y2
    show Win p.tables e below _ (T_33.setTop (mkF m 192 #[.val (.int p0), .val (.int p1), .val (.int p2), .val (.int p3), .val (.int p4), .val (.int (2 : Int32)), .val (.ref b_27), .val (.long y2), .second, .val (.long (-3560570117845248645 : Int64)), .second] []))
    refine s_lload (pc' := 194) X_33.here hx (hb hby at_192) rfl rfl ?_
    refine s_iloadN (pc' := 195) X_33.here hx (hb hby at_194) rfl rfl ?_
    refine s_sipush (pc' := 198) (z := (255 : Int32)) X_33.here hx (hb hby at_195) rfl rfl ?_
    refine s_iand (pc' := 199) X_33.here hx (hb hby at_198) rfl ?_
    refine Win.go (fun _ k => XS.i2l X_33.here hx rfl (hb hby at_199) rfl k) ?_
    show Win p.tables e below _ (T_33.setTop (mkF m 200 #[.val (.int p0), .val (.int p1), .val (.int p2), .val (.int p3), .val (.int p4), .val (.int (2 : Int32)), .val (.ref b_27), .val (.long y2), .second, .val (.long (-3560570117845248645 : Int64)), .second] [(.long ((p2 &&& (255 : Int32)).toInt64)), (.long y2)]))
    refine s_lxor (pc' := 201) X_33.here hx (hb hby at_200) rfl ?_
    refine s_lstore (pc' := 203) (l' := #[.val (.int p0), .val (.int p1), .val (.int p2), .val (.int p3), .val (.int p4), .val (.int (2 : Int32)), .val (.ref b_27), .val (.long (y2 ^^^ ((p2 &&& (255 : Int32)).toInt64))), .second, .val (.long (-3560570117845248645 : Int64)), .second]) X_33.here hx (hb hby at_201) rfl rfl ?_
    generalize hz2 : (y2 ^^^ ((p2 &&& (255 : Int32)).toInt64)) = z2
    show Win p.tables e below _ (T_33.setTop (mkF m 203 #[.val (.int p0), .val (.int p1), .val (.int p2), .val (.int p3), .val (.int p4), .val (.int (2 : Int32)), .val (.ref b_27), .val (.long z2), .second, .val (.long (-3560570117845248645 : Int64)), .second] []))
    refine s_iload (pc' := 205) X_33.here hx (hb hby at_203) rfl rfl ?_
    refine s_iconst (pc' := 206) (z := (1 : Int32)) X_33.here hx (hb hby at_205) rfl rfl ?_
    refine s_icmpNo (pc' := 209) X_33.here hx (hb hby at_206) rfl (fltI (x := (2 : Int32)) (y := (1 : Int32)) (by decide)).1 ?_
    refine s_lload (pc' := 211) X_33.here hx (hb hby at_209) rfl rfl ?_
    refine s_lload (pc' := 213) X_33.here hx (hb hby at_211) rfl rfl ?_
    refine s_lmul (pc' := 214) X_33.here hx (hb hby at_213) rfl ?_
    refine s_lstore (pc' := 216) (l' := #[.val (.int p0), .val (.int p1), .val (.int p2), .val (.int p3), .val (.int p4), .val (.int (2 : Int32)), .val (.ref b_27), .val (.long (z2 * (-3560570117845248645 : Int64))), .second, .val (.long (-3560570117845248645 : Int64)), .second]) X_33.here hx (hb hby at_214) rfl rfl ?_
    generalize hy1 : (z2 * (-3560570117845248645 : Int64)) = y1
    show Win p.tables e below _ (T_33.setTop (mkF m 216 #[.val (.int p0), .val (.int p1), .val (.int p2), .val (.int p3), .val (.int p4), .val (.int (2 : Int32)), .val (.ref b_27), .val (.long y1), .second, .val (.long (-3560570117845248645 : Int64)), .second] []))
    refine s_lload (pc' := 218) X_33.here hx (hb hby at_216) rfl rfl ?_
    refine s_iloadN (pc' := 219) X_33.here hx (hb hby at_218) rfl rfl ?_
    refine s_sipush (pc' := 222) (z := (255 : Int32)) X_33.here hx (hb hby at_219) rfl rfl ?_
    refine s_iand (pc' := 223) X_33.here hx (hb hby at_222) rfl ?_
    refine Win.go (fun _ k => XS.i2l X_33.here hx rfl (hb hby at_223) rfl k) ?_
    show Win p.tables e below _ (T_33.setTop (mkF m 224 #[.val (.int p0), .val (.int p1), .val (.int p2), .val (.int p3), .val (.int p4), .val (.int (2 : Int32)), .val (.ref b_27), .val (.long y1), .second, .val (.long (-3560570117845248645 : Int64)), .second] [(.long ((p1 &&& (255 : Int32)).toInt64)), (.long y1)]))
    refine s_lxor (pc' := 225) X_33.here hx (hb hby at_224) rfl ?_
    refine s_lstore (pc' := 227) (l' := #[.val (.int p0), .val (.int p1), .val (.int p2), .val (.int p3), .val (.int p4), .val (.int (2 : Int32)), .val (.ref b_27), .val (.long (y1 ^^^ ((p1 &&& (255 : Int32)).toInt64))), .second, .val (.long (-3560570117845248645 : Int64)), .second]) X_33.here hx (hb hby at_225) rfl rfl ?_
    generalize hz1 : (y1 ^^^ ((p1 &&& (255 : Int32)).toInt64)) = z1
    show Win p.tables e below _ (T_33.setTop (mkF m 227 #[.val (.int p0), .val (.int p1), .val (.int p2), .val (.int p3), .val (.int p4), .val (.int (2 : Int32)), .val (.ref b_27), .val (.long z1), .second, .val (.long (-3560570117845248645 : Int64)), .second] []))
    refine s_lload (pc' := 229) X_33.here hx (hb hby at_227) rfl rfl ?_
    refine Win.go (fun _ k => X_33.ldc2Long hx hown (mvT hZ (hw _ (List.mem_of_getElem? (i := 17) rfl))) (g := (mkF m 229 #[.val (.int p0), .val (.int p1), .val (.int p2), .val (.int p3), .val (.int p4), .val (.int (2 : Int32)), .val (.ref b_27), .val (.long z1), .second, .val (.long (-3560570117845248645 : Int64)), .second] [(.long z1)])) rfl (hb hby at_229) _ k) ?_
    show Win p.tables e below _ (T_33.setTop (mkF m 232 #[.val (.int p0), .val (.int p1), .val (.int p2), .val (.int p3), .val (.int p4), .val (.int (2 : Int32)), .val (.ref b_27), .val (.long z1), .second, .val (.long (-3560570117845248645 : Int64)), .second] [(.long (-3750763034362895579 : Int64)), (.long z1)]))
    refine s_lcmp (pc' := 233) X_33.here hx (hb hby at_232) rfl ?_
    by_cases hc233 : (z1).toInt = (-3750763034362895579 : Int)
    · skip
      refine s_ifNo (pc' := 236) X_33.here hx (hb hby at_233) rfl (teqL (x := z1) (y := (-3750763034362895579 : Int64)) hc233).2 ?_
      refine s_iconst (pc' := 237) (z := (1 : Int32)) X_33.here hx (hb hby at_236) rfl rfl ?_
      refine s_goto (pc' := 241) X_33.here hx (hb hby at_237) (by decide) (by decide) ?_
      refine winN X_33 hx hlk e_33 (t := .boolean) Bd.returns (by simp) (hb hby at_241) (by decide) (by decide) (z' := 1) rfl ⟨Nf, rfl⟩
    · skip
      refine s_ifYes (pc' := 240) X_33.here hx (hb hby at_233) (feqL (x := z1) (y := (-3750763034362895579 : Int64)) hc233).2 (by decide) (by decide) ?_
      refine s_iconst (pc' := 241) (z := (0 : Int32)) X_33.here hx (hb hby at_240) rfl rfl ?_
      exfalso
      have u : x5 = (hstep (hstep (-3750763034362895579 : Int64) (nar .byte (p1.toInt8.toInt32))) (nar .byte (p2.toInt8.toInt32))) := by rw [← hx5, ← hx4, ← hx3, ← hx2, ← hx1, ← hx0]; exact own_un _
      have u2 : z2 = (hstep (-3750763034362895579 : Int64) (nar .byte (p1.toInt8.toInt32))) := by rw [← hz2, ← hy2, u]; exact own_peel _ _
      have u1 : z1 = (-3750763034362895579 : Int64) := by rw [← hz1, ← hy1, u2]; exact own_peel _ _
      exact hc233 (congrArg Int64.toInt u1)
  · skip
    show Win p.tables e below _ (s₁.setTop (mkF m 8 #[.val (.int p0), .val (.int p1), .val (.int p2), .val (.int p3), .val (.int p4), .val (.int (3 : Int32)), .unset, .unset, .unset, .unset, .unset] []))
    refine s_iload (pc' := 10) X0.here hx (hb hby at_8) rfl rfl ?_
    obtain ⟨T_34, h_34, k_34, X_34, e_34, Ex_34, A_34, EA_34, st_34⟩ := newPE X0 hx hZ (hw _ (List.mem_of_getElem? (i := 1) rfl)) e0 (g := (mkF m 10 #[.val (.int p0), .val (.int p1), .val (.int p2), .val (.int p3), .val (.int p4), .val (.int (3 : Int32)), .unset, .unset, .unset, .unset, .unset] [(.int (3 : Int32))])) rfl (hb hby at_10) rfl (by decide) (cap := 3) (by decide) (by decide) (by decide) (by decide) (ad := "[B") (by decide)
    obtain ⟨b_34, g_34⟩ : ∃ z, z = h0.size := ⟨_, rfl⟩
    have g_b_34 : n0 ≤ b_34 := Nat.le_trans Zs (Nat.le_of_eq g_34.symm)
    rw [← g_34] at A_34 EA_34 st_34
    replace Zs := Nat.le_trans Zs Ex_34.1
    have V_b_34 : Arv Z h_34 b_34 k_34 .byte (3 : Int32) [(.int (0 : Int32)), (.int (0 : Int32)), (.int (0 : Int32))] (.int (0 : Int32)) := (Arv.new A_34 (by decide)).pad (pad_rep [] (.int (0 : Int32)) 3)
    have lt_b_34 := V_b_34.lt
    have E_b_34 := EA_34
    refine Win.go st_34 ?_
    clear st_34 Ex_34 A_34 EA_34 g_34 X0 e0
    show Win p.tables e below _ (T_34.setTop (mkF m 12 #[.val (.int p0), .val (.int p1), .val (.int p2), .val (.int p3), .val (.int p4), .val (.int (3 : Int32)), .unset, .unset, .unset, .unset, .unset] [(.ref b_34)]))
    refine s_astore (pc' := 14) (l' := #[.val (.int p0), .val (.int p1), .val (.int p2), .val (.int p3), .val (.int p4), .val (.int (3 : Int32)), .val (.ref b_34), .unset, .unset, .unset, .unset]) X_34.here hx (hb hby at_12) rfl rfl rfl ?_
    refine s_iload (pc' := 16) X_34.here hx (hb hby at_14) rfl rfl ?_
    refine s_iconst (pc' := 17) (z := (1 : Int32)) X_34.here hx (hb hby at_16) rfl rfl ?_
    refine s_icmpNo (pc' := 20) X_34.here hx (hb hby at_17) rfl (fltI (x := (3 : Int32)) (y := (1 : Int32)) (by decide)).1 ?_
    refine s_aload (pc' := 22) X_34.here hx (hb hby at_20) rfl rfl rfl ?_
    refine s_iconst (pc' := 23) (z := (0 : Int32)) X_34.here hx (hb hby at_22) rfl rfl ?_
    refine s_iloadN (pc' := 24) X_34.here hx (hb hby at_23) rfl rfl ?_
    refine Win.go (fun _ k => XS.i2b X_34.here hx rfl (hb hby at_24) rfl k) ?_
    show Win p.tables e below _ (T_34.setTop (mkF m 25 #[.val (.int p0), .val (.int p1), .val (.int p2), .val (.int p3), .val (.int p4), .val (.int (3 : Int32)), .val (.ref b_34), .unset, .unset, .unset, .unset] [(.int (p1.toInt8.toInt32)), (.int (0 : Int32)), (.ref b_34)]))
    obtain ⟨cl_35, Ar_35, q_35, S_35, N_35, H_35, G_35⟩ := V_b_34
    obtain ⟨T_35, h_35, X_35, e_35, W_35, st_35⟩ := stB X_34 hx hZ e_34 Ar_35 (j := (0 : Int32)) (inb_of S_35 ⟨by decide, by decide⟩) (g := (mkF m 25 #[.val (.int p0), .val (.int p1), .val (.int p2), .val (.int p3), .val (.int p4), .val (.int (3 : Int32)), .val (.ref b_34), .unset, .unset, .unset, .unset] [(.int (p1.toInt8.toInt32)), (.int (0 : Int32)), (.ref b_34)])) rfl rfl (hb hby at_25)
    have V_35 := Arv.set Ar_35 q_35 S_35 N_35 H_35 G_35 (fits_nar_byte _) W_35 0 rfl (Nat.le_of_ble_eq_true rfl)
    replace E_b_34 := E_b_34.wr W_35
    replace lt_b_34 := Nat.lt_of_lt_of_le lt_b_34 (Keep.of_wr W_35).1
    replace Zs := Nat.le_trans Zs (Keep.of_wr W_35).1
    replace V_b_34 : Arv Z h_35 b_34 k_34 .byte (3 : Int32) [(.int (nar .byte (p1.toInt8.toInt32))), (.int (0 : Int32)), (.int (0 : Int32))] (.int (0 : Int32)) := V_35
    replace Nf := Fr.snoc X_35 Nf g_b_34
    refine Win.go st_35 ?_
    clear st_35 W_35 V_35 Ar_35 q_35 S_35 N_35 H_35 G_35 X_34 e_34
    show Win p.tables e below _ (T_35.setTop (mkF m 26 #[.val (.int p0), .val (.int p1), .val (.int p2), .val (.int p3), .val (.int p4), .val (.int (3 : Int32)), .val (.ref b_34), .unset, .unset, .unset, .unset] []))
    refine s_iload (pc' := 28) X_35.here hx (hb hby at_26) rfl rfl ?_
    refine s_iconst (pc' := 29) (z := (2 : Int32)) X_35.here hx (hb hby at_28) rfl rfl ?_
    refine s_icmpNo (pc' := 32) X_35.here hx (hb hby at_29) rfl (fltI (x := (3 : Int32)) (y := (2 : Int32)) (by decide)).1 ?_
    refine s_aload (pc' := 34) X_35.here hx (hb hby at_32) rfl rfl rfl ?_
    refine s_iconst (pc' := 35) (z := (1 : Int32)) X_35.here hx (hb hby at_34) rfl rfl ?_
    refine s_iloadN (pc' := 36) X_35.here hx (hb hby at_35) rfl rfl ?_
    refine Win.go (fun _ k => XS.i2b X_35.here hx rfl (hb hby at_36) rfl k) ?_
    show Win p.tables e below _ (T_35.setTop (mkF m 37 #[.val (.int p0), .val (.int p1), .val (.int p2), .val (.int p3), .val (.int p4), .val (.int (3 : Int32)), .val (.ref b_34), .unset, .unset, .unset, .unset] [(.int (p2.toInt8.toInt32)), (.int (1 : Int32)), (.ref b_34)]))
    obtain ⟨cl_36, Ar_36, q_36, S_36, N_36, H_36, G_36⟩ := V_b_34
    obtain ⟨T_36, h_36, X_36, e_36, W_36, st_36⟩ := stB X_35 hx hZ e_35 Ar_36 (j := (1 : Int32)) (inb_of S_36 ⟨by decide, by decide⟩) (g := (mkF m 37 #[.val (.int p0), .val (.int p1), .val (.int p2), .val (.int p3), .val (.int p4), .val (.int (3 : Int32)), .val (.ref b_34), .unset, .unset, .unset, .unset] [(.int (p2.toInt8.toInt32)), (.int (1 : Int32)), (.ref b_34)])) rfl rfl (hb hby at_37)
    have V_36 := Arv.set Ar_36 q_36 S_36 N_36 H_36 G_36 (fits_nar_byte _) W_36 1 rfl (Nat.le_of_ble_eq_true rfl)
    replace E_b_34 := E_b_34.wr W_36
    replace lt_b_34 := Nat.lt_of_lt_of_le lt_b_34 (Keep.of_wr W_36).1
    replace Zs := Nat.le_trans Zs (Keep.of_wr W_36).1
    replace V_b_34 : Arv Z h_36 b_34 k_34 .byte (3 : Int32) [(.int (nar .byte (p1.toInt8.toInt32))), (.int (nar .byte (p2.toInt8.toInt32))), (.int (0 : Int32))] (.int (0 : Int32)) := V_36
    replace Nf := Fr.snoc X_36 Nf g_b_34
    refine Win.go st_36 ?_
    clear st_36 W_36 V_36 Ar_36 q_36 S_36 N_36 H_36 G_36 X_35 e_35
    show Win p.tables e below _ (T_36.setTop (mkF m 38 #[.val (.int p0), .val (.int p1), .val (.int p2), .val (.int p3), .val (.int p4), .val (.int (3 : Int32)), .val (.ref b_34), .unset, .unset, .unset, .unset] []))
    refine s_iload (pc' := 40) X_36.here hx (hb hby at_38) rfl rfl ?_
    refine s_iconst (pc' := 41) (z := (3 : Int32)) X_36.here hx (hb hby at_40) rfl rfl ?_
    refine s_icmpNo (pc' := 44) X_36.here hx (hb hby at_41) rfl (fltI (x := (3 : Int32)) (y := (3 : Int32)) (by decide)).1 ?_
    refine s_aload (pc' := 46) X_36.here hx (hb hby at_44) rfl rfl rfl ?_
    refine s_iconst (pc' := 47) (z := (2 : Int32)) X_36.here hx (hb hby at_46) rfl rfl ?_
    refine s_iloadN (pc' := 48) X_36.here hx (hb hby at_47) rfl rfl ?_
    refine Win.go (fun _ k => XS.i2b X_36.here hx rfl (hb hby at_48) rfl k) ?_
    show Win p.tables e below _ (T_36.setTop (mkF m 49 #[.val (.int p0), .val (.int p1), .val (.int p2), .val (.int p3), .val (.int p4), .val (.int (3 : Int32)), .val (.ref b_34), .unset, .unset, .unset, .unset] [(.int (p3.toInt8.toInt32)), (.int (2 : Int32)), (.ref b_34)]))
    obtain ⟨cl_37, Ar_37, q_37, S_37, N_37, H_37, G_37⟩ := V_b_34
    obtain ⟨T_37, h_37, X_37, e_37, W_37, st_37⟩ := stB X_36 hx hZ e_36 Ar_37 (j := (2 : Int32)) (inb_of S_37 ⟨by decide, by decide⟩) (g := (mkF m 49 #[.val (.int p0), .val (.int p1), .val (.int p2), .val (.int p3), .val (.int p4), .val (.int (3 : Int32)), .val (.ref b_34), .unset, .unset, .unset, .unset] [(.int (p3.toInt8.toInt32)), (.int (2 : Int32)), (.ref b_34)])) rfl rfl (hb hby at_49)
    have V_37 := Arv.set Ar_37 q_37 S_37 N_37 H_37 G_37 (fits_nar_byte _) W_37 2 rfl (Nat.le_of_ble_eq_true rfl)
    replace E_b_34 := E_b_34.wr W_37
    replace lt_b_34 := Nat.lt_of_lt_of_le lt_b_34 (Keep.of_wr W_37).1
    replace Zs := Nat.le_trans Zs (Keep.of_wr W_37).1
    replace V_b_34 : Arv Z h_37 b_34 k_34 .byte (3 : Int32) [(.int (nar .byte (p1.toInt8.toInt32))), (.int (nar .byte (p2.toInt8.toInt32))), (.int (nar .byte (p3.toInt8.toInt32)))] (.int (0 : Int32)) := V_37
    replace Nf := Fr.snoc X_37 Nf g_b_34
    refine Win.go st_37 ?_
    clear st_37 W_37 V_37 Ar_37 q_37 S_37 N_37 H_37 G_37 X_36 e_36
    show Win p.tables e below _ (T_37.setTop (mkF m 50 #[.val (.int p0), .val (.int p1), .val (.int p2), .val (.int p3), .val (.int p4), .val (.int (3 : Int32)), .val (.ref b_34), .unset, .unset, .unset, .unset] []))
    refine s_iload (pc' := 52) X_37.here hx (hb hby at_50) rfl rfl ?_
    refine s_iconst (pc' := 53) (z := (4 : Int32)) X_37.here hx (hb hby at_52) rfl rfl ?_
    refine s_icmpYes (pc' := 63) X_37.here hx (hb hby at_53) (tltI (x := (3 : Int32)) (y := (4 : Int32)) (by decide)).1 (by decide) (by decide) ?_
    refine s_aload (pc' := 65) X_37.here hx (hb hby at_63) rfl rfl rfl ?_
    obtain ⟨_, _, ⟨T_38, L_38, k_38, n_38⟩, -, X_38, ⟨Lc_38, hQ_38, l_38, y_38, z_38⟩, st_38⟩ := Jvm.LawKit.callS X_37 hx (y := (⟨"com/example/sextant/sextant/store/Dictionary", "hash", "([B)J"⟩ : MethodName)) hown (mvT hZ (hw _ (List.mem_of_getElem? (i := 2) rfl))) (mvT hZ (hw _ (List.mem_of_getElem? (i := 3) rfl))) (mvT hZ (hw _ (List.mem_of_getElem? (i := 4) rfl))) (mvT hZ (hw _ (List.mem_of_getElem? (i := 5) rfl))) (by decide) (backOf (W := 0) (rm1_3 l Z a0 hw [] b_34 k_34 (nar .byte (p1.toInt8.toInt32)) (nar .byte (p2.toInt8.toInt32)) (nar .byte (p3.toInt8.toInt32)) h_37 n0 Zs V_b_34) hZ (hw _ (List.mem_of_getElem? (i := 5) rfl)) (hw _ (List.mem_of_getElem? (i := 4) rfl)) (by decide) (by decide)) (g := (mkF m 65 #[.val (.int p0), .val (.int p1), .val (.int p2), .val (.int p3), .val (.int p4), .val (.int (3 : Int32)), .val (.ref b_34), .unset, .unset, .unset, .unset] [(.ref b_34)])) rfl (by rw [hml]; rfl) (argsL := [(.ref b_34)]) (rest := []) (lenOf pd_0 rfl) rfl (by show 2 * 0 + _ ≤ _; exact Nat.le_of_eq rfl) (hb hby at_65) (fun _ _ => ⟨rfl, e_37, (by decide : 1 + 0 ≤ _), (by decide : 3 + 0 ≤ _)⟩)
    dsimp only [Pt.U, Pt.locs, Pt.cells, Pt.slots] at X_38 l_38 y_38 z_38 st_38 hQ_38
    subst l_38 y_38 z_38
    obtain ⟨Nq_38, e_38, rfl⟩ := hQ_38
    replace Nf := Fr.app Nf Nq_38
    refine Win.go st_38 ?_
    clear st_38 Nq_38 X_37 e_37
    show Win p.tables e below _ (T_38.setTop (mkF m 68 #[.val (.int p0), .val (.int p1), .val (.int p2), .val (.int p3), .val (.int p4), .val (.int (3 : Int32)), .val (.ref b_34), .unset, .unset, .unset, .unset] [(.long (hmix (hstep (hstep (hstep (-3750763034362895579 : Int64) (nar .byte (p1.toInt8.toInt32))) (nar .byte (p2.toInt8.toInt32))) (nar .byte (p3.toInt8.toInt32)))))]))
    refine s_lstore (pc' := 70) (l' := #[.val (.int p0), .val (.int p1), .val (.int p2), .val (.int p3), .val (.int p4), .val (.int (3 : Int32)), .val (.ref b_34), .val (.long (hmix (hstep (hstep (hstep (-3750763034362895579 : Int64) (nar .byte (p1.toInt8.toInt32))) (nar .byte (p2.toInt8.toInt32))) (nar .byte (p3.toInt8.toInt32))))), .second, .unset, .unset]) X_38.here hx (hb hby at_68) rfl rfl ?_
    generalize hx0 : (hmix (hstep (hstep (hstep (-3750763034362895579 : Int64) (nar .byte (p1.toInt8.toInt32))) (nar .byte (p2.toInt8.toInt32))) (nar .byte (p3.toInt8.toInt32)))) = x0
    show Win p.tables e below _ (T_38.setTop (mkF m 70 #[.val (.int p0), .val (.int p1), .val (.int p2), .val (.int p3), .val (.int p4), .val (.int (3 : Int32)), .val (.ref b_34), .val (.long x0), .second, .unset, .unset] []))
    refine s_lload (pc' := 72) X_38.here hx (hb hby at_70) rfl rfl ?_
    refine s_lload (pc' := 74) X_38.here hx (hb hby at_72) rfl rfl ?_
    refine s_bipush (pc' := 76) (z := (33 : Int32)) X_38.here hx (hb hby at_74) rfl rfl ?_
    refine Win.go (fun _ k => XT.lushr X_38.here hx rfl (hb hby at_76) rfl k) ?_
    show Win p.tables e below _ (T_38.setTop (mkF m 77 #[.val (.int p0), .val (.int p1), .val (.int p2), .val (.int p3), .val (.int p4), .val (.int (3 : Int32)), .val (.ref b_34), .val (.long x0), .second, .unset, .unset] [(.long (XT.ushrL x0 (33 : Int32))), (.long x0)]))
    refine s_lxor (pc' := 78) X_38.here hx (hb hby at_77) rfl ?_
    refine s_lstore (pc' := 80) (l' := #[.val (.int p0), .val (.int p1), .val (.int p2), .val (.int p3), .val (.int p4), .val (.int (3 : Int32)), .val (.ref b_34), .val (.long (x0 ^^^ (XT.ushrL x0 (33 : Int32)))), .second, .unset, .unset]) X_38.here hx (hb hby at_78) rfl rfl ?_
    generalize hx1 : (x0 ^^^ (XT.ushrL x0 (33 : Int32))) = x1
    show Win p.tables e below _ (T_38.setTop (mkF m 80 #[.val (.int p0), .val (.int p1), .val (.int p2), .val (.int p3), .val (.int p4), .val (.int (3 : Int32)), .val (.ref b_34), .val (.long x1), .second, .unset, .unset] []))
    refine s_lload (pc' := 82) X_38.here hx (hb hby at_80) rfl rfl ?_
    refine Win.go (fun _ k => X_38.ldc2Long hx hown (mvT hZ (hw _ (List.mem_of_getElem? (i := 9) rfl))) (g := (mkF m 82 #[.val (.int p0), .val (.int p1), .val (.int p2), .val (.int p3), .val (.int p4), .val (.int (3 : Int32)), .val (.ref b_34), .val (.long x1), .second, .unset, .unset] [(.long x1)])) rfl (hb hby at_82) _ k) ?_
    show Win p.tables e below _ (T_38.setTop (mkF m 85 #[.val (.int p0), .val (.int p1), .val (.int p2), .val (.int p3), .val (.int p4), .val (.int (3 : Int32)), .val (.ref b_34), .val (.long x1), .second, .unset, .unset] [(.long (-4265267296055464877 : Int64)), (.long x1)]))
    obtain ⟨_, _, ⟨T_39, L_39, k_39, n_39⟩, -, X_39, ⟨Lc_39, hQ_39, l_39, y_39, z_39⟩, st_39⟩ := Jvm.LawKit.callS X_38 hx (y := (⟨"com/example/sextant/sextant/store/DictionaryHashPinLaw", "inverse", "(J)J"⟩ : MethodName)) hown (mvT hZ (hw _ (List.mem_of_getElem? (i := 10) rfl))) (mvT hZ (hw _ (List.mem_of_getElem? (i := 11) rfl))) (mvT hZ (hw _ (List.mem_of_getElem? (i := 12) rfl))) (mvT hZ (hw _ (List.mem_of_getElem? (i := 13) rfl))) (by decide) (backOf (W := 2) (rm2a l Z a0 hw []  h_37 n0 Zs ) hZ (hw _ (List.mem_of_getElem? (i := 13) rfl)) (hw _ (List.mem_of_getElem? (i := 12) rfl)) (by decide) (by decide)) (g := (mkF m 85 #[.val (.int p0), .val (.int p1), .val (.int p2), .val (.int p3), .val (.int p4), .val (.int (3 : Int32)), .val (.ref b_34), .val (.long x1), .second, .unset, .unset] [(.long (-4265267296055464877 : Int64)), (.long x1)])) rfl (by rw [hml]; rfl) (argsL := [(.long (-4265267296055464877 : Int64))]) (rest := [(.long x1)]) (lenOf pd_1 rfl) rfl (by show 2 * 0 + _ ≤ _; exact Nat.le_of_eq rfl) (hb hby at_85) (fun _ _ => ⟨rfl, e_38, (by decide : 1 + 0 ≤ _), (by decide : 3 + 0 ≤ _)⟩)
    dsimp only [Pt.U, Pt.locs, Pt.cells, Pt.slots] at X_39 l_39 y_39 z_39 st_39 hQ_39
    subst l_39 y_39 z_39
    obtain ⟨Nq_39, e_39, rfl⟩ := hQ_39
    replace Nf := Fr.app Nf Nq_39
    refine Win.go st_39 ?_
    clear st_39 Nq_39 X_38 e_38
    show Win p.tables e below _ (T_39.setTop (mkF m 88 #[.val (.int p0), .val (.int p1), .val (.int p2), .val (.int p3), .val (.int p4), .val (.int (3 : Int32)), .val (.ref b_34), .val (.long x1), .second, .unset, .unset] [(.long (-7154897129451604005 : Int64)), (.long x1)]))
    refine s_lmul (pc' := 89) X_39.here hx (hb hby at_88) rfl ?_
    refine s_lstore (pc' := 91) (l' := #[.val (.int p0), .val (.int p1), .val (.int p2), .val (.int p3), .val (.int p4), .val (.int (3 : Int32)), .val (.ref b_34), .val (.long (x1 * (-7154897129451604005 : Int64))), .second, .unset, .unset]) X_39.here hx (hb hby at_89) rfl rfl ?_
    generalize hx2 : (x1 * (-7154897129451604005 : Int64)) = x2
    show Win p.tables e below _ (T_39.setTop (mkF m 91 #[.val (.int p0), .val (.int p1), .val (.int p2), .val (.int p3), .val (.int p4), .val (.int (3 : Int32)), .val (.ref b_34), .val (.long x2), .second, .unset, .unset] []))
    refine s_lload (pc' := 93) X_39.here hx (hb hby at_91) rfl rfl ?_
    refine s_lload (pc' := 95) X_39.here hx (hb hby at_93) rfl rfl ?_
    refine s_bipush (pc' := 97) (z := (33 : Int32)) X_39.here hx (hb hby at_95) rfl rfl ?_
    refine Win.go (fun _ k => XT.lushr X_39.here hx rfl (hb hby at_97) rfl k) ?_
    show Win p.tables e below _ (T_39.setTop (mkF m 98 #[.val (.int p0), .val (.int p1), .val (.int p2), .val (.int p3), .val (.int p4), .val (.int (3 : Int32)), .val (.ref b_34), .val (.long x2), .second, .unset, .unset] [(.long (XT.ushrL x2 (33 : Int32))), (.long x2)]))
    refine s_lxor (pc' := 99) X_39.here hx (hb hby at_98) rfl ?_
    refine s_lstore (pc' := 101) (l' := #[.val (.int p0), .val (.int p1), .val (.int p2), .val (.int p3), .val (.int p4), .val (.int (3 : Int32)), .val (.ref b_34), .val (.long (x2 ^^^ (XT.ushrL x2 (33 : Int32)))), .second, .unset, .unset]) X_39.here hx (hb hby at_99) rfl rfl ?_
    generalize hx3 : (x2 ^^^ (XT.ushrL x2 (33 : Int32))) = x3
    show Win p.tables e below _ (T_39.setTop (mkF m 101 #[.val (.int p0), .val (.int p1), .val (.int p2), .val (.int p3), .val (.int p4), .val (.int (3 : Int32)), .val (.ref b_34), .val (.long x3), .second, .unset, .unset] []))
    refine s_lload (pc' := 103) X_39.here hx (hb hby at_101) rfl rfl ?_
    refine Win.go (fun _ k => X_39.ldc2Long hx hown (mvT hZ (hw _ (List.mem_of_getElem? (i := 15) rfl))) (g := (mkF m 103 #[.val (.int p0), .val (.int p1), .val (.int p2), .val (.int p3), .val (.int p4), .val (.int (3 : Int32)), .val (.ref b_34), .val (.long x3), .second, .unset, .unset] [(.long x3)])) rfl (hb hby at_103) _ k) ?_
    show Win p.tables e below _ (T_39.setTop (mkF m 106 #[.val (.int p0), .val (.int p1), .val (.int p2), .val (.int p3), .val (.int p4), .val (.int (3 : Int32)), .val (.ref b_34), .val (.long x3), .second, .unset, .unset] [(.long (-49064778989728563 : Int64)), (.long x3)]))
    obtain ⟨_, _, ⟨T_40, L_40, k_40, n_40⟩, -, X_40, ⟨Lc_40, hQ_40, l_40, y_40, z_40⟩, st_40⟩ := Jvm.LawKit.callS X_39 hx (y := (⟨"com/example/sextant/sextant/store/DictionaryHashPinLaw", "inverse", "(J)J"⟩ : MethodName)) hown (mvT hZ (hw _ (List.mem_of_getElem? (i := 10) rfl))) (mvT hZ (hw _ (List.mem_of_getElem? (i := 11) rfl))) (mvT hZ (hw _ (List.mem_of_getElem? (i := 12) rfl))) (mvT hZ (hw _ (List.mem_of_getElem? (i := 13) rfl))) (by decide) (backOf (W := 2) (rm2b l Z a0 hw []  h_37 n0 Zs ) hZ (hw _ (List.mem_of_getElem? (i := 13) rfl)) (hw _ (List.mem_of_getElem? (i := 12) rfl)) (by decide) (by decide)) (g := (mkF m 106 #[.val (.int p0), .val (.int p1), .val (.int p2), .val (.int p3), .val (.int p4), .val (.int (3 : Int32)), .val (.ref b_34), .val (.long x3), .second, .unset, .unset] [(.long (-49064778989728563 : Int64)), (.long x3)])) rfl (by rw [hml]; rfl) (argsL := [(.long (-49064778989728563 : Int64))]) (rest := [(.long x3)]) (lenOf pd_1 rfl) rfl (by show 2 * 0 + _ ≤ _; exact Nat.le_of_eq rfl) (hb hby at_106) (fun _ _ => ⟨rfl, e_39, (by decide : 1 + 0 ≤ _), (by decide : 3 + 0 ≤ _)⟩)
    dsimp only [Pt.U, Pt.locs, Pt.cells, Pt.slots] at X_40 l_40 y_40 z_40 st_40 hQ_40
    subst l_40 y_40 z_40
    obtain ⟨Nq_40, e_40, rfl⟩ := hQ_40
    replace Nf := Fr.app Nf Nq_40
    refine Win.go st_40 ?_
    clear st_40 Nq_40 X_39 e_39
    show Win p.tables e below _ (T_40.setTop (mkF m 109 #[.val (.int p0), .val (.int p1), .val (.int p2), .val (.int p3), .val (.int p4), .val (.int (3 : Int32)), .val (.ref b_34), .val (.long x3), .second, .unset, .unset] [(.long (5725274745694666757 : Int64)), (.long x3)]))
    refine s_lmul (pc' := 110) X_40.here hx (hb hby at_109) rfl ?_
    refine s_lstore (pc' := 112) (l' := #[.val (.int p0), .val (.int p1), .val (.int p2), .val (.int p3), .val (.int p4), .val (.int (3 : Int32)), .val (.ref b_34), .val (.long (x3 * (5725274745694666757 : Int64))), .second, .unset, .unset]) X_40.here hx (hb hby at_110) rfl rfl ?_
    generalize hx4 : (x3 * (5725274745694666757 : Int64)) = x4
    show Win p.tables e below _ (T_40.setTop (mkF m 112 #[.val (.int p0), .val (.int p1), .val (.int p2), .val (.int p3), .val (.int p4), .val (.int (3 : Int32)), .val (.ref b_34), .val (.long x4), .second, .unset, .unset] []))
    refine s_lload (pc' := 114) X_40.here hx (hb hby at_112) rfl rfl ?_
    refine s_lload (pc' := 116) X_40.here hx (hb hby at_114) rfl rfl ?_
    refine s_bipush (pc' := 118) (z := (33 : Int32)) X_40.here hx (hb hby at_116) rfl rfl ?_
    refine Win.go (fun _ k => XT.lushr X_40.here hx rfl (hb hby at_118) rfl k) ?_
    show Win p.tables e below _ (T_40.setTop (mkF m 119 #[.val (.int p0), .val (.int p1), .val (.int p2), .val (.int p3), .val (.int p4), .val (.int (3 : Int32)), .val (.ref b_34), .val (.long x4), .second, .unset, .unset] [(.long (XT.ushrL x4 (33 : Int32))), (.long x4)]))
    refine s_lxor (pc' := 120) X_40.here hx (hb hby at_119) rfl ?_
    refine s_lstore (pc' := 122) (l' := #[.val (.int p0), .val (.int p1), .val (.int p2), .val (.int p3), .val (.int p4), .val (.int (3 : Int32)), .val (.ref b_34), .val (.long (x4 ^^^ (XT.ushrL x4 (33 : Int32)))), .second, .unset, .unset]) X_40.here hx (hb hby at_120) rfl rfl ?_
    generalize hx5 : (x4 ^^^ (XT.ushrL x4 (33 : Int32))) = x5
    show Win p.tables e below _ (T_40.setTop (mkF m 122 #[.val (.int p0), .val (.int p1), .val (.int p2), .val (.int p3), .val (.int p4), .val (.int (3 : Int32)), .val (.ref b_34), .val (.long x5), .second, .unset, .unset] []))
    refine Win.go (fun _ k => X_40.ldc2Long hx hown (mvT hZ (hw _ (List.mem_of_getElem? (i := 16) rfl))) (g := (mkF m 122 #[.val (.int p0), .val (.int p1), .val (.int p2), .val (.int p3), .val (.int p4), .val (.int (3 : Int32)), .val (.ref b_34), .val (.long x5), .second, .unset, .unset] [])) rfl (hb hby at_122) _ k) ?_
    show Win p.tables e below _ (T_40.setTop (mkF m 125 #[.val (.int p0), .val (.int p1), .val (.int p2), .val (.int p3), .val (.int p4), .val (.int (3 : Int32)), .val (.ref b_34), .val (.long x5), .second, .unset, .unset] [(.long (1099511628211 : Int64))]))
    obtain ⟨_, _, ⟨T_41, L_41, k_41, n_41⟩, -, X_41, ⟨Lc_41, hQ_41, l_41, y_41, z_41⟩, st_41⟩ := Jvm.LawKit.callS X_40 hx (y := (⟨"com/example/sextant/sextant/store/DictionaryHashPinLaw", "inverse", "(J)J"⟩ : MethodName)) hown (mvT hZ (hw _ (List.mem_of_getElem? (i := 10) rfl))) (mvT hZ (hw _ (List.mem_of_getElem? (i := 11) rfl))) (mvT hZ (hw _ (List.mem_of_getElem? (i := 12) rfl))) (mvT hZ (hw _ (List.mem_of_getElem? (i := 13) rfl))) (by decide) (backOf (W := 0) (rm2c l Z a0 hw []  h_37 n0 Zs ) hZ (hw _ (List.mem_of_getElem? (i := 13) rfl)) (hw _ (List.mem_of_getElem? (i := 12) rfl)) (by decide) (by decide)) (g := (mkF m 125 #[.val (.int p0), .val (.int p1), .val (.int p2), .val (.int p3), .val (.int p4), .val (.int (3 : Int32)), .val (.ref b_34), .val (.long x5), .second, .unset, .unset] [(.long (1099511628211 : Int64))])) rfl (by rw [hml]; rfl) (argsL := [(.long (1099511628211 : Int64))]) (rest := []) (lenOf pd_1 rfl) rfl (by show 2 * 0 + _ ≤ _; exact Nat.le_of_eq rfl) (hb hby at_125) (fun _ _ => ⟨rfl, e_40, (by decide : 1 + 0 ≤ _), (by decide : 3 + 0 ≤ _)⟩)
    dsimp only [Pt.U, Pt.locs, Pt.cells, Pt.slots] at X_41 l_41 y_41 z_41 st_41 hQ_41
    subst l_41 y_41 z_41
    obtain ⟨Nq_41, e_41, rfl⟩ := hQ_41
    replace Nf := Fr.app Nf Nq_41
    refine Win.go st_41 ?_
    clear st_41 Nq_41 X_40 e_40
    show Win p.tables e below _ (T_41.setTop (mkF m 128 #[.val (.int p0), .val (.int p1), .val (.int p2), .val (.int p3), .val (.int p4), .val (.int (3 : Int32)), .val (.ref b_34), .val (.long x5), .second, .unset, .unset] [(.long (-3560570117845248645 : Int64))]))
    refine s_lstore (pc' := 130) (l' := #[.val (.int p0), .val (.int p1), .val (.int p2), .val (.int p3), .val (.int p4), .val (.int (3 : Int32)), .val (.ref b_34), .val (.long x5), .second, .val (.long (-3560570117845248645 : Int64)), .second]) X_41.here hx (hb hby at_128) rfl rfl ?_
    refine s_iload (pc' := 132) X_41.here hx (hb hby at_130) rfl rfl ?_
    refine s_iconst (pc' := 133) (z := (4 : Int32)) X_41.here hx (hb hby at_132) rfl rfl ?_
    refine s_icmpYes (pc' := 155) X_41.here hx (hb hby at_133) (tltI (x := (3 : Int32)) (y := (4 : Int32)) (by decide)).1 (by decide) (by decide) ?_
    refine s_iload (pc' := 157) X_41.here hx (hb hby at_155) rfl rfl ?_
    refine s_iconst (pc' := 158) (z := (3 : Int32)) X_41.here hx (hb hby at_157) rfl rfl ?_
    refine s_icmpNo (pc' := 161) X_41.here hx (hb hby at_158) rfl (fltI (x := (3 : Int32)) (y := (3 : Int32)) (by decide)).1 ?_
    refine s_lload (pc' := 163) X_41.here hx (hb hby at_161) rfl rfl ?_
    refine s_lload (pc' := 165) X_41.here hx (hb hby at_163) rfl rfl ?_
    refine s_lmul (pc' := 166) X_41.here hx (hb hby at_165) rfl ?_
    refine s_lstore (pc' := 168) (l' := #[.val (.int p0), .val (.int p1), .val (.int p2), .val (.int p3), .val (.int p4), .val (.int (3 : Int32)), .val (.ref b_34), .val (.long (x5 * (-3560570117845248645 : Int64))), .second, .val (.long (-3560570117845248645 : Int64)), .second]) X_41.here hx (hb hby at_166) rfl rfl ?_
    generalize hy3 : (x5 * (-3560570117845248645 : Int64)) = y3
    show Win p.tables e below _ (T_41.setTop (mkF m 168 #[.val (.int p0), .val (.int p1), .val (.int p2), .val (.int p3), .val (.int p4), .val (.int (3 : Int32)), .val (.ref b_34), .val (.long y3), .second, .val (.long (-3560570117845248645 : Int64)), .second] []))
    refine s_lload (pc' := 170) X_41.here hx (hb hby at_168) rfl rfl ?_
    refine s_iloadN (pc' := 171) X_41.here hx (hb hby at_170) rfl rfl ?_
    refine s_sipush (pc' := 174) (z := (255 : Int32)) X_41.here hx (hb hby at_171) rfl rfl ?_
    refine s_iand (pc' := 175) X_41.here hx (hb hby at_174) rfl ?_
    refine Win.go (fun _ k => XS.i2l X_41.here hx rfl (hb hby at_175) rfl k) ?_
    show Win p.tables e below _ (T_41.setTop (mkF m 176 #[.val (.int p0), .val (.int p1), .val (.int p2), .val (.int p3), .val (.int p4), .val (.int (3 : Int32)), .val (.ref b_34), .val (.long y3), .second, .val (.long (-3560570117845248645 : Int64)), .second] [(.long ((p3 &&& (255 : Int32)).toInt64)), (.long y3)]))
    refine s_lxor (pc' := 177) X_41.here hx (hb hby at_176) rfl ?_
    refine s_lstore (pc' := 179) (l' := #[.val (.int p0), .val (.int p1), .val (.int p2), .val (.int p3), .val (.int p4), .val (.int (3 : Int32)), .val (.ref b_34), .val (.long (y3 ^^^ ((p3 &&& (255 : Int32)).toInt64))), .second, .val (.long (-3560570117845248645 : Int64)), .second]) X_41.here hx (hb hby at_177) rfl rfl ?_
    generalize hz3 : (y3 ^^^ ((p3 &&& (255 : Int32)).toInt64)) = z3
    show Win p.tables e below _ (T_41.setTop (mkF m 179 #[.val (.int p0), .val (.int p1), .val (.int p2), .val (.int p3), .val (.int p4), .val (.int (3 : Int32)), .val (.ref b_34), .val (.long z3), .second, .val (.long (-3560570117845248645 : Int64)), .second] []))
    refine s_iload (pc' := 181) X_41.here hx (hb hby at_179) rfl rfl ?_
    refine s_iconst (pc' := 182) (z := (2 : Int32)) X_41.here hx (hb hby at_181) rfl rfl ?_
    refine s_icmpNo (pc' := 185) X_41.here hx (hb hby at_182) rfl (fltI (x := (3 : Int32)) (y := (2 : Int32)) (by decide)).1 ?_
    refine s_lload (pc' := 187) X_41.here hx (hb hby at_185) rfl rfl ?_
    refine s_lload (pc' := 189) X_41.here hx (hb hby at_187) rfl rfl ?_
    refine s_lmul (pc' := 190) X_41.here hx (hb hby at_189) rfl ?_
    refine s_lstore (pc' := 192) (l' := #[.val (.int p0), .val (.int p1), .val (.int p2), .val (.int p3), .val (.int p4), .val (.int (3 : Int32)), .val (.ref b_34), .val (.long (z3 * (-3560570117845248645 : Int64))), .second, .val (.long (-3560570117845248645 : Int64)), .second]) X_41.here hx (hb hby at_190) rfl rfl ?_
    generalize hy2 : (z3 * (-3560570117845248645 : Int64)) = y2
    show Win p.tables e below _ (T_41.setTop (mkF m 192 #[.val (.int p0), .val (.int p1), .val (.int p2), .val (.int p3), .val (.int p4), .val (.int (3 : Int32)), .val (.ref b_34), .val (.long y2), .second, .val (.long (-3560570117845248645 : Int64)), .second] []))
    refine s_lload (pc' := 194) X_41.here hx (hb hby at_192) rfl rfl ?_
    refine s_iloadN (pc' := 195) X_41.here hx (hb hby at_194) rfl rfl ?_
    refine s_sipush (pc' := 198) (z := (255 : Int32)) X_41.here hx (hb hby at_195) rfl rfl ?_
    refine s_iand (pc' := 199) X_41.here hx (hb hby at_198) rfl ?_
    refine Win.go (fun _ k => XS.i2l X_41.here hx rfl (hb hby at_199) rfl k) ?_
    show Win p.tables e below _ (T_41.setTop (mkF m 200 #[.val (.int p0), .val (.int p1), .val (.int p2), .val (.int p3), .val (.int p4), .val (.int (3 : Int32)), .val (.ref b_34), .val (.long y2), .second, .val (.long (-3560570117845248645 : Int64)), .second] [(.long ((p2 &&& (255 : Int32)).toInt64)), (.long y2)]))
    refine s_lxor (pc' := 201) X_41.here hx (hb hby at_200) rfl ?_
    refine s_lstore (pc' := 203) (l' := #[.val (.int p0), .val (.int p1), .val (.int p2), .val (.int p3), .val (.int p4), .val (.int (3 : Int32)), .val (.ref b_34), .val (.long (y2 ^^^ ((p2 &&& (255 : Int32)).toInt64))), .second, .val (.long (-3560570117845248645 : Int64)), .second]) X_41.here hx (hb hby at_201) rfl rfl ?_
    generalize hz2 : (y2 ^^^ ((p2 &&& (255 : Int32)).toInt64)) = z2
    show Win p.tables e below _ (T_41.setTop (mkF m 203 #[.val (.int p0), .val (.int p1), .val (.int p2), .val (.int p3), .val (.int p4), .val (.int (3 : Int32)), .val (.ref b_34), .val (.long z2), .second, .val (.long (-3560570117845248645 : Int64)), .second] []))
    refine s_iload (pc' := 205) X_41.here hx (hb hby at_203) rfl rfl ?_
    refine s_iconst (pc' := 206) (z := (1 : Int32)) X_41.here hx (hb hby at_205) rfl rfl ?_
    refine s_icmpNo (pc' := 209) X_41.here hx (hb hby at_206) rfl (fltI (x := (3 : Int32)) (y := (1 : Int32)) (by decide)).1 ?_
    refine s_lload (pc' := 211) X_41.here hx (hb hby at_209) rfl rfl ?_
    refine s_lload (pc' := 213) X_41.here hx (hb hby at_211) rfl rfl ?_
    refine s_lmul (pc' := 214) X_41.here hx (hb hby at_213) rfl ?_
    refine s_lstore (pc' := 216) (l' := #[.val (.int p0), .val (.int p1), .val (.int p2), .val (.int p3), .val (.int p4), .val (.int (3 : Int32)), .val (.ref b_34), .val (.long (z2 * (-3560570117845248645 : Int64))), .second, .val (.long (-3560570117845248645 : Int64)), .second]) X_41.here hx (hb hby at_214) rfl rfl ?_
    generalize hy1 : (z2 * (-3560570117845248645 : Int64)) = y1
    show Win p.tables e below _ (T_41.setTop (mkF m 216 #[.val (.int p0), .val (.int p1), .val (.int p2), .val (.int p3), .val (.int p4), .val (.int (3 : Int32)), .val (.ref b_34), .val (.long y1), .second, .val (.long (-3560570117845248645 : Int64)), .second] []))
    refine s_lload (pc' := 218) X_41.here hx (hb hby at_216) rfl rfl ?_
    refine s_iloadN (pc' := 219) X_41.here hx (hb hby at_218) rfl rfl ?_
    refine s_sipush (pc' := 222) (z := (255 : Int32)) X_41.here hx (hb hby at_219) rfl rfl ?_
    refine s_iand (pc' := 223) X_41.here hx (hb hby at_222) rfl ?_
    refine Win.go (fun _ k => XS.i2l X_41.here hx rfl (hb hby at_223) rfl k) ?_
    show Win p.tables e below _ (T_41.setTop (mkF m 224 #[.val (.int p0), .val (.int p1), .val (.int p2), .val (.int p3), .val (.int p4), .val (.int (3 : Int32)), .val (.ref b_34), .val (.long y1), .second, .val (.long (-3560570117845248645 : Int64)), .second] [(.long ((p1 &&& (255 : Int32)).toInt64)), (.long y1)]))
    refine s_lxor (pc' := 225) X_41.here hx (hb hby at_224) rfl ?_
    refine s_lstore (pc' := 227) (l' := #[.val (.int p0), .val (.int p1), .val (.int p2), .val (.int p3), .val (.int p4), .val (.int (3 : Int32)), .val (.ref b_34), .val (.long (y1 ^^^ ((p1 &&& (255 : Int32)).toInt64))), .second, .val (.long (-3560570117845248645 : Int64)), .second]) X_41.here hx (hb hby at_225) rfl rfl ?_
    generalize hz1 : (y1 ^^^ ((p1 &&& (255 : Int32)).toInt64)) = z1
    show Win p.tables e below _ (T_41.setTop (mkF m 227 #[.val (.int p0), .val (.int p1), .val (.int p2), .val (.int p3), .val (.int p4), .val (.int (3 : Int32)), .val (.ref b_34), .val (.long z1), .second, .val (.long (-3560570117845248645 : Int64)), .second] []))
    refine s_lload (pc' := 229) X_41.here hx (hb hby at_227) rfl rfl ?_
    refine Win.go (fun _ k => X_41.ldc2Long hx hown (mvT hZ (hw _ (List.mem_of_getElem? (i := 17) rfl))) (g := (mkF m 229 #[.val (.int p0), .val (.int p1), .val (.int p2), .val (.int p3), .val (.int p4), .val (.int (3 : Int32)), .val (.ref b_34), .val (.long z1), .second, .val (.long (-3560570117845248645 : Int64)), .second] [(.long z1)])) rfl (hb hby at_229) _ k) ?_
    show Win p.tables e below _ (T_41.setTop (mkF m 232 #[.val (.int p0), .val (.int p1), .val (.int p2), .val (.int p3), .val (.int p4), .val (.int (3 : Int32)), .val (.ref b_34), .val (.long z1), .second, .val (.long (-3560570117845248645 : Int64)), .second] [(.long (-3750763034362895579 : Int64)), (.long z1)]))
    refine s_lcmp (pc' := 233) X_41.here hx (hb hby at_232) rfl ?_
    by_cases hc233 : (z1).toInt = (-3750763034362895579 : Int)
    · skip
      refine s_ifNo (pc' := 236) X_41.here hx (hb hby at_233) rfl (teqL (x := z1) (y := (-3750763034362895579 : Int64)) hc233).2 ?_
      refine s_iconst (pc' := 237) (z := (1 : Int32)) X_41.here hx (hb hby at_236) rfl rfl ?_
      refine s_goto (pc' := 241) X_41.here hx (hb hby at_237) (by decide) (by decide) ?_
      refine winN X_41 hx hlk e_41 (t := .boolean) Bd.returns (by simp) (hb hby at_241) (by decide) (by decide) (z' := 1) rfl ⟨Nf, rfl⟩
    · skip
      refine s_ifYes (pc' := 240) X_41.here hx (hb hby at_233) (feqL (x := z1) (y := (-3750763034362895579 : Int64)) hc233).2 (by decide) (by decide) ?_
      refine s_iconst (pc' := 241) (z := (0 : Int32)) X_41.here hx (hb hby at_240) rfl rfl ?_
      exfalso
      have u : x5 = (hstep (hstep (hstep (-3750763034362895579 : Int64) (nar .byte (p1.toInt8.toInt32))) (nar .byte (p2.toInt8.toInt32))) (nar .byte (p3.toInt8.toInt32))) := by rw [← hx5, ← hx4, ← hx3, ← hx2, ← hx1, ← hx0]; exact own_un _
      have u3 : z3 = (hstep (hstep (-3750763034362895579 : Int64) (nar .byte (p1.toInt8.toInt32))) (nar .byte (p2.toInt8.toInt32))) := by rw [← hz3, ← hy3, u]; exact own_peel _ _
      have u2 : z2 = (hstep (-3750763034362895579 : Int64) (nar .byte (p1.toInt8.toInt32))) := by rw [← hz2, ← hy2, u3]; exact own_peel _ _
      have u1 : z1 = (-3750763034362895579 : Int64) := by rw [← hz1, ← hy1, u2]; exact own_peel _ _
      exact hc233 (congrArg Int64.toInt u1)
  · skip
    show Win p.tables e below _ (s₁.setTop (mkF m 8 #[.val (.int p0), .val (.int p1), .val (.int p2), .val (.int p3), .val (.int p4), .val (.int (4 : Int32)), .unset, .unset, .unset, .unset, .unset] []))
    refine s_iload (pc' := 10) X0.here hx (hb hby at_8) rfl rfl ?_
    obtain ⟨T_42, h_42, k_42, X_42, e_42, Ex_42, A_42, EA_42, st_42⟩ := newPE X0 hx hZ (hw _ (List.mem_of_getElem? (i := 1) rfl)) e0 (g := (mkF m 10 #[.val (.int p0), .val (.int p1), .val (.int p2), .val (.int p3), .val (.int p4), .val (.int (4 : Int32)), .unset, .unset, .unset, .unset, .unset] [(.int (4 : Int32))])) rfl (hb hby at_10) rfl (by decide) (cap := 4) (by decide) (by decide) (by decide) (by decide) (ad := "[B") (by decide)
    obtain ⟨b_42, g_42⟩ : ∃ z, z = h0.size := ⟨_, rfl⟩
    have g_b_42 : n0 ≤ b_42 := Nat.le_trans Zs (Nat.le_of_eq g_42.symm)
    rw [← g_42] at A_42 EA_42 st_42
    replace Zs := Nat.le_trans Zs Ex_42.1
    have V_b_42 : Arv Z h_42 b_42 k_42 .byte (4 : Int32) [(.int (0 : Int32)), (.int (0 : Int32)), (.int (0 : Int32)), (.int (0 : Int32))] (.int (0 : Int32)) := (Arv.new A_42 (by decide)).pad (pad_rep [] (.int (0 : Int32)) 4)
    have lt_b_42 := V_b_42.lt
    have E_b_42 := EA_42
    refine Win.go st_42 ?_
    clear st_42 Ex_42 A_42 EA_42 g_42 X0 e0
    show Win p.tables e below _ (T_42.setTop (mkF m 12 #[.val (.int p0), .val (.int p1), .val (.int p2), .val (.int p3), .val (.int p4), .val (.int (4 : Int32)), .unset, .unset, .unset, .unset, .unset] [(.ref b_42)]))
    refine s_astore (pc' := 14) (l' := #[.val (.int p0), .val (.int p1), .val (.int p2), .val (.int p3), .val (.int p4), .val (.int (4 : Int32)), .val (.ref b_42), .unset, .unset, .unset, .unset]) X_42.here hx (hb hby at_12) rfl rfl rfl ?_
    refine s_iload (pc' := 16) X_42.here hx (hb hby at_14) rfl rfl ?_
    refine s_iconst (pc' := 17) (z := (1 : Int32)) X_42.here hx (hb hby at_16) rfl rfl ?_
    refine s_icmpNo (pc' := 20) X_42.here hx (hb hby at_17) rfl (fltI (x := (4 : Int32)) (y := (1 : Int32)) (by decide)).1 ?_
    refine s_aload (pc' := 22) X_42.here hx (hb hby at_20) rfl rfl rfl ?_
    refine s_iconst (pc' := 23) (z := (0 : Int32)) X_42.here hx (hb hby at_22) rfl rfl ?_
    refine s_iloadN (pc' := 24) X_42.here hx (hb hby at_23) rfl rfl ?_
    refine Win.go (fun _ k => XS.i2b X_42.here hx rfl (hb hby at_24) rfl k) ?_
    show Win p.tables e below _ (T_42.setTop (mkF m 25 #[.val (.int p0), .val (.int p1), .val (.int p2), .val (.int p3), .val (.int p4), .val (.int (4 : Int32)), .val (.ref b_42), .unset, .unset, .unset, .unset] [(.int (p1.toInt8.toInt32)), (.int (0 : Int32)), (.ref b_42)]))
    obtain ⟨cl_43, Ar_43, q_43, S_43, N_43, H_43, G_43⟩ := V_b_42
    obtain ⟨T_43, h_43, X_43, e_43, W_43, st_43⟩ := stB X_42 hx hZ e_42 Ar_43 (j := (0 : Int32)) (inb_of S_43 ⟨by decide, by decide⟩) (g := (mkF m 25 #[.val (.int p0), .val (.int p1), .val (.int p2), .val (.int p3), .val (.int p4), .val (.int (4 : Int32)), .val (.ref b_42), .unset, .unset, .unset, .unset] [(.int (p1.toInt8.toInt32)), (.int (0 : Int32)), (.ref b_42)])) rfl rfl (hb hby at_25)
    have V_43 := Arv.set Ar_43 q_43 S_43 N_43 H_43 G_43 (fits_nar_byte _) W_43 0 rfl (Nat.le_of_ble_eq_true rfl)
    replace E_b_42 := E_b_42.wr W_43
    replace lt_b_42 := Nat.lt_of_lt_of_le lt_b_42 (Keep.of_wr W_43).1
    replace Zs := Nat.le_trans Zs (Keep.of_wr W_43).1
    replace V_b_42 : Arv Z h_43 b_42 k_42 .byte (4 : Int32) [(.int (nar .byte (p1.toInt8.toInt32))), (.int (0 : Int32)), (.int (0 : Int32)), (.int (0 : Int32))] (.int (0 : Int32)) := V_43
    replace Nf := Fr.snoc X_43 Nf g_b_42
    refine Win.go st_43 ?_
    clear st_43 W_43 V_43 Ar_43 q_43 S_43 N_43 H_43 G_43 X_42 e_42
    show Win p.tables e below _ (T_43.setTop (mkF m 26 #[.val (.int p0), .val (.int p1), .val (.int p2), .val (.int p3), .val (.int p4), .val (.int (4 : Int32)), .val (.ref b_42), .unset, .unset, .unset, .unset] []))
    refine s_iload (pc' := 28) X_43.here hx (hb hby at_26) rfl rfl ?_
    refine s_iconst (pc' := 29) (z := (2 : Int32)) X_43.here hx (hb hby at_28) rfl rfl ?_
    refine s_icmpNo (pc' := 32) X_43.here hx (hb hby at_29) rfl (fltI (x := (4 : Int32)) (y := (2 : Int32)) (by decide)).1 ?_
    refine s_aload (pc' := 34) X_43.here hx (hb hby at_32) rfl rfl rfl ?_
    refine s_iconst (pc' := 35) (z := (1 : Int32)) X_43.here hx (hb hby at_34) rfl rfl ?_
    refine s_iloadN (pc' := 36) X_43.here hx (hb hby at_35) rfl rfl ?_
    refine Win.go (fun _ k => XS.i2b X_43.here hx rfl (hb hby at_36) rfl k) ?_
    show Win p.tables e below _ (T_43.setTop (mkF m 37 #[.val (.int p0), .val (.int p1), .val (.int p2), .val (.int p3), .val (.int p4), .val (.int (4 : Int32)), .val (.ref b_42), .unset, .unset, .unset, .unset] [(.int (p2.toInt8.toInt32)), (.int (1 : Int32)), (.ref b_42)]))
    obtain ⟨cl_44, Ar_44, q_44, S_44, N_44, H_44, G_44⟩ := V_b_42
    obtain ⟨T_44, h_44, X_44, e_44, W_44, st_44⟩ := stB X_43 hx hZ e_43 Ar_44 (j := (1 : Int32)) (inb_of S_44 ⟨by decide, by decide⟩) (g := (mkF m 37 #[.val (.int p0), .val (.int p1), .val (.int p2), .val (.int p3), .val (.int p4), .val (.int (4 : Int32)), .val (.ref b_42), .unset, .unset, .unset, .unset] [(.int (p2.toInt8.toInt32)), (.int (1 : Int32)), (.ref b_42)])) rfl rfl (hb hby at_37)
    have V_44 := Arv.set Ar_44 q_44 S_44 N_44 H_44 G_44 (fits_nar_byte _) W_44 1 rfl (Nat.le_of_ble_eq_true rfl)
    replace E_b_42 := E_b_42.wr W_44
    replace lt_b_42 := Nat.lt_of_lt_of_le lt_b_42 (Keep.of_wr W_44).1
    replace Zs := Nat.le_trans Zs (Keep.of_wr W_44).1
    replace V_b_42 : Arv Z h_44 b_42 k_42 .byte (4 : Int32) [(.int (nar .byte (p1.toInt8.toInt32))), (.int (nar .byte (p2.toInt8.toInt32))), (.int (0 : Int32)), (.int (0 : Int32))] (.int (0 : Int32)) := V_44
    replace Nf := Fr.snoc X_44 Nf g_b_42
    refine Win.go st_44 ?_
    clear st_44 W_44 V_44 Ar_44 q_44 S_44 N_44 H_44 G_44 X_43 e_43
    show Win p.tables e below _ (T_44.setTop (mkF m 38 #[.val (.int p0), .val (.int p1), .val (.int p2), .val (.int p3), .val (.int p4), .val (.int (4 : Int32)), .val (.ref b_42), .unset, .unset, .unset, .unset] []))
    refine s_iload (pc' := 40) X_44.here hx (hb hby at_38) rfl rfl ?_
    refine s_iconst (pc' := 41) (z := (3 : Int32)) X_44.here hx (hb hby at_40) rfl rfl ?_
    refine s_icmpNo (pc' := 44) X_44.here hx (hb hby at_41) rfl (fltI (x := (4 : Int32)) (y := (3 : Int32)) (by decide)).1 ?_
    refine s_aload (pc' := 46) X_44.here hx (hb hby at_44) rfl rfl rfl ?_
    refine s_iconst (pc' := 47) (z := (2 : Int32)) X_44.here hx (hb hby at_46) rfl rfl ?_
    refine s_iloadN (pc' := 48) X_44.here hx (hb hby at_47) rfl rfl ?_
    refine Win.go (fun _ k => XS.i2b X_44.here hx rfl (hb hby at_48) rfl k) ?_
    show Win p.tables e below _ (T_44.setTop (mkF m 49 #[.val (.int p0), .val (.int p1), .val (.int p2), .val (.int p3), .val (.int p4), .val (.int (4 : Int32)), .val (.ref b_42), .unset, .unset, .unset, .unset] [(.int (p3.toInt8.toInt32)), (.int (2 : Int32)), (.ref b_42)]))
    obtain ⟨cl_45, Ar_45, q_45, S_45, N_45, H_45, G_45⟩ := V_b_42
    obtain ⟨T_45, h_45, X_45, e_45, W_45, st_45⟩ := stB X_44 hx hZ e_44 Ar_45 (j := (2 : Int32)) (inb_of S_45 ⟨by decide, by decide⟩) (g := (mkF m 49 #[.val (.int p0), .val (.int p1), .val (.int p2), .val (.int p3), .val (.int p4), .val (.int (4 : Int32)), .val (.ref b_42), .unset, .unset, .unset, .unset] [(.int (p3.toInt8.toInt32)), (.int (2 : Int32)), (.ref b_42)])) rfl rfl (hb hby at_49)
    have V_45 := Arv.set Ar_45 q_45 S_45 N_45 H_45 G_45 (fits_nar_byte _) W_45 2 rfl (Nat.le_of_ble_eq_true rfl)
    replace E_b_42 := E_b_42.wr W_45
    replace lt_b_42 := Nat.lt_of_lt_of_le lt_b_42 (Keep.of_wr W_45).1
    replace Zs := Nat.le_trans Zs (Keep.of_wr W_45).1
    replace V_b_42 : Arv Z h_45 b_42 k_42 .byte (4 : Int32) [(.int (nar .byte (p1.toInt8.toInt32))), (.int (nar .byte (p2.toInt8.toInt32))), (.int (nar .byte (p3.toInt8.toInt32))), (.int (0 : Int32))] (.int (0 : Int32)) := V_45
    replace Nf := Fr.snoc X_45 Nf g_b_42
    refine Win.go st_45 ?_
    clear st_45 W_45 V_45 Ar_45 q_45 S_45 N_45 H_45 G_45 X_44 e_44
    show Win p.tables e below _ (T_45.setTop (mkF m 50 #[.val (.int p0), .val (.int p1), .val (.int p2), .val (.int p3), .val (.int p4), .val (.int (4 : Int32)), .val (.ref b_42), .unset, .unset, .unset, .unset] []))
    refine s_iload (pc' := 52) X_45.here hx (hb hby at_50) rfl rfl ?_
    refine s_iconst (pc' := 53) (z := (4 : Int32)) X_45.here hx (hb hby at_52) rfl rfl ?_
    refine s_icmpNo (pc' := 56) X_45.here hx (hb hby at_53) rfl (fltI (x := (4 : Int32)) (y := (4 : Int32)) (by decide)).1 ?_
    refine s_aload (pc' := 58) X_45.here hx (hb hby at_56) rfl rfl rfl ?_
    refine s_iconst (pc' := 59) (z := (3 : Int32)) X_45.here hx (hb hby at_58) rfl rfl ?_
    refine s_iload (pc' := 61) X_45.here hx (hb hby at_59) rfl rfl ?_
    refine Win.go (fun _ k => XS.i2b X_45.here hx rfl (hb hby at_61) rfl k) ?_
    show Win p.tables e below _ (T_45.setTop (mkF m 62 #[.val (.int p0), .val (.int p1), .val (.int p2), .val (.int p3), .val (.int p4), .val (.int (4 : Int32)), .val (.ref b_42), .unset, .unset, .unset, .unset] [(.int (p4.toInt8.toInt32)), (.int (3 : Int32)), (.ref b_42)]))
    obtain ⟨cl_46, Ar_46, q_46, S_46, N_46, H_46, G_46⟩ := V_b_42
    obtain ⟨T_46, h_46, X_46, e_46, W_46, st_46⟩ := stB X_45 hx hZ e_45 Ar_46 (j := (3 : Int32)) (inb_of S_46 ⟨by decide, by decide⟩) (g := (mkF m 62 #[.val (.int p0), .val (.int p1), .val (.int p2), .val (.int p3), .val (.int p4), .val (.int (4 : Int32)), .val (.ref b_42), .unset, .unset, .unset, .unset] [(.int (p4.toInt8.toInt32)), (.int (3 : Int32)), (.ref b_42)])) rfl rfl (hb hby at_62)
    have V_46 := Arv.set Ar_46 q_46 S_46 N_46 H_46 G_46 (fits_nar_byte _) W_46 3 rfl (Nat.le_of_ble_eq_true rfl)
    replace E_b_42 := E_b_42.wr W_46
    replace lt_b_42 := Nat.lt_of_lt_of_le lt_b_42 (Keep.of_wr W_46).1
    replace Zs := Nat.le_trans Zs (Keep.of_wr W_46).1
    replace V_b_42 : Arv Z h_46 b_42 k_42 .byte (4 : Int32) [(.int (nar .byte (p1.toInt8.toInt32))), (.int (nar .byte (p2.toInt8.toInt32))), (.int (nar .byte (p3.toInt8.toInt32))), (.int (nar .byte (p4.toInt8.toInt32)))] (.int (0 : Int32)) := V_46
    replace Nf := Fr.snoc X_46 Nf g_b_42
    refine Win.go st_46 ?_
    clear st_46 W_46 V_46 Ar_46 q_46 S_46 N_46 H_46 G_46 X_45 e_45
    show Win p.tables e below _ (T_46.setTop (mkF m 63 #[.val (.int p0), .val (.int p1), .val (.int p2), .val (.int p3), .val (.int p4), .val (.int (4 : Int32)), .val (.ref b_42), .unset, .unset, .unset, .unset] []))
    refine s_aload (pc' := 65) X_46.here hx (hb hby at_63) rfl rfl rfl ?_
    obtain ⟨_, _, ⟨T_47, L_47, k_47, n_47⟩, -, X_47, ⟨Lc_47, hQ_47, l_47, y_47, z_47⟩, st_47⟩ := Jvm.LawKit.callS X_46 hx (y := (⟨"com/example/sextant/sextant/store/Dictionary", "hash", "([B)J"⟩ : MethodName)) hown (mvT hZ (hw _ (List.mem_of_getElem? (i := 2) rfl))) (mvT hZ (hw _ (List.mem_of_getElem? (i := 3) rfl))) (mvT hZ (hw _ (List.mem_of_getElem? (i := 4) rfl))) (mvT hZ (hw _ (List.mem_of_getElem? (i := 5) rfl))) (by decide) (backOf (W := 0) (rm1_4 l Z a0 hw [] b_42 k_42 (nar .byte (p1.toInt8.toInt32)) (nar .byte (p2.toInt8.toInt32)) (nar .byte (p3.toInt8.toInt32)) (nar .byte (p4.toInt8.toInt32)) h_46 n0 Zs V_b_42) hZ (hw _ (List.mem_of_getElem? (i := 5) rfl)) (hw _ (List.mem_of_getElem? (i := 4) rfl)) (by decide) (by decide)) (g := (mkF m 65 #[.val (.int p0), .val (.int p1), .val (.int p2), .val (.int p3), .val (.int p4), .val (.int (4 : Int32)), .val (.ref b_42), .unset, .unset, .unset, .unset] [(.ref b_42)])) rfl (by rw [hml]; rfl) (argsL := [(.ref b_42)]) (rest := []) (lenOf pd_0 rfl) rfl (by show 2 * 0 + _ ≤ _; exact Nat.le_of_eq rfl) (hb hby at_65) (fun _ _ => ⟨rfl, e_46, (by decide : 1 + 0 ≤ _), (by decide : 4 + 0 ≤ _)⟩)
    dsimp only [Pt.U, Pt.locs, Pt.cells, Pt.slots] at X_47 l_47 y_47 z_47 st_47 hQ_47
    subst l_47 y_47 z_47
    obtain ⟨Nq_47, e_47, rfl⟩ := hQ_47
    replace Nf := Fr.app Nf Nq_47
    refine Win.go st_47 ?_
    clear st_47 Nq_47 X_46 e_46
    show Win p.tables e below _ (T_47.setTop (mkF m 68 #[.val (.int p0), .val (.int p1), .val (.int p2), .val (.int p3), .val (.int p4), .val (.int (4 : Int32)), .val (.ref b_42), .unset, .unset, .unset, .unset] [(.long (hmix (hstep (hstep (hstep (hstep (-3750763034362895579 : Int64) (nar .byte (p1.toInt8.toInt32))) (nar .byte (p2.toInt8.toInt32))) (nar .byte (p3.toInt8.toInt32))) (nar .byte (p4.toInt8.toInt32)))))]))
    refine s_lstore (pc' := 70) (l' := #[.val (.int p0), .val (.int p1), .val (.int p2), .val (.int p3), .val (.int p4), .val (.int (4 : Int32)), .val (.ref b_42), .val (.long (hmix (hstep (hstep (hstep (hstep (-3750763034362895579 : Int64) (nar .byte (p1.toInt8.toInt32))) (nar .byte (p2.toInt8.toInt32))) (nar .byte (p3.toInt8.toInt32))) (nar .byte (p4.toInt8.toInt32))))), .second, .unset, .unset]) X_47.here hx (hb hby at_68) rfl rfl ?_
    generalize hx0 : (hmix (hstep (hstep (hstep (hstep (-3750763034362895579 : Int64) (nar .byte (p1.toInt8.toInt32))) (nar .byte (p2.toInt8.toInt32))) (nar .byte (p3.toInt8.toInt32))) (nar .byte (p4.toInt8.toInt32)))) = x0
    show Win p.tables e below _ (T_47.setTop (mkF m 70 #[.val (.int p0), .val (.int p1), .val (.int p2), .val (.int p3), .val (.int p4), .val (.int (4 : Int32)), .val (.ref b_42), .val (.long x0), .second, .unset, .unset] []))
    refine s_lload (pc' := 72) X_47.here hx (hb hby at_70) rfl rfl ?_
    refine s_lload (pc' := 74) X_47.here hx (hb hby at_72) rfl rfl ?_
    refine s_bipush (pc' := 76) (z := (33 : Int32)) X_47.here hx (hb hby at_74) rfl rfl ?_
    refine Win.go (fun _ k => XT.lushr X_47.here hx rfl (hb hby at_76) rfl k) ?_
    show Win p.tables e below _ (T_47.setTop (mkF m 77 #[.val (.int p0), .val (.int p1), .val (.int p2), .val (.int p3), .val (.int p4), .val (.int (4 : Int32)), .val (.ref b_42), .val (.long x0), .second, .unset, .unset] [(.long (XT.ushrL x0 (33 : Int32))), (.long x0)]))
    refine s_lxor (pc' := 78) X_47.here hx (hb hby at_77) rfl ?_
    refine s_lstore (pc' := 80) (l' := #[.val (.int p0), .val (.int p1), .val (.int p2), .val (.int p3), .val (.int p4), .val (.int (4 : Int32)), .val (.ref b_42), .val (.long (x0 ^^^ (XT.ushrL x0 (33 : Int32)))), .second, .unset, .unset]) X_47.here hx (hb hby at_78) rfl rfl ?_
    generalize hx1 : (x0 ^^^ (XT.ushrL x0 (33 : Int32))) = x1
    show Win p.tables e below _ (T_47.setTop (mkF m 80 #[.val (.int p0), .val (.int p1), .val (.int p2), .val (.int p3), .val (.int p4), .val (.int (4 : Int32)), .val (.ref b_42), .val (.long x1), .second, .unset, .unset] []))
    refine s_lload (pc' := 82) X_47.here hx (hb hby at_80) rfl rfl ?_
    refine Win.go (fun _ k => X_47.ldc2Long hx hown (mvT hZ (hw _ (List.mem_of_getElem? (i := 9) rfl))) (g := (mkF m 82 #[.val (.int p0), .val (.int p1), .val (.int p2), .val (.int p3), .val (.int p4), .val (.int (4 : Int32)), .val (.ref b_42), .val (.long x1), .second, .unset, .unset] [(.long x1)])) rfl (hb hby at_82) _ k) ?_
    show Win p.tables e below _ (T_47.setTop (mkF m 85 #[.val (.int p0), .val (.int p1), .val (.int p2), .val (.int p3), .val (.int p4), .val (.int (4 : Int32)), .val (.ref b_42), .val (.long x1), .second, .unset, .unset] [(.long (-4265267296055464877 : Int64)), (.long x1)]))
    obtain ⟨_, _, ⟨T_48, L_48, k_48, n_48⟩, -, X_48, ⟨Lc_48, hQ_48, l_48, y_48, z_48⟩, st_48⟩ := Jvm.LawKit.callS X_47 hx (y := (⟨"com/example/sextant/sextant/store/DictionaryHashPinLaw", "inverse", "(J)J"⟩ : MethodName)) hown (mvT hZ (hw _ (List.mem_of_getElem? (i := 10) rfl))) (mvT hZ (hw _ (List.mem_of_getElem? (i := 11) rfl))) (mvT hZ (hw _ (List.mem_of_getElem? (i := 12) rfl))) (mvT hZ (hw _ (List.mem_of_getElem? (i := 13) rfl))) (by decide) (backOf (W := 2) (rm2a l Z a0 hw []  h_46 n0 Zs ) hZ (hw _ (List.mem_of_getElem? (i := 13) rfl)) (hw _ (List.mem_of_getElem? (i := 12) rfl)) (by decide) (by decide)) (g := (mkF m 85 #[.val (.int p0), .val (.int p1), .val (.int p2), .val (.int p3), .val (.int p4), .val (.int (4 : Int32)), .val (.ref b_42), .val (.long x1), .second, .unset, .unset] [(.long (-4265267296055464877 : Int64)), (.long x1)])) rfl (by rw [hml]; rfl) (argsL := [(.long (-4265267296055464877 : Int64))]) (rest := [(.long x1)]) (lenOf pd_1 rfl) rfl (by show 2 * 0 + _ ≤ _; exact Nat.le_of_eq rfl) (hb hby at_85) (fun _ _ => ⟨rfl, e_47, (by decide : 1 + 0 ≤ _), (by decide : 4 + 0 ≤ _)⟩)
    dsimp only [Pt.U, Pt.locs, Pt.cells, Pt.slots] at X_48 l_48 y_48 z_48 st_48 hQ_48
    subst l_48 y_48 z_48
    obtain ⟨Nq_48, e_48, rfl⟩ := hQ_48
    replace Nf := Fr.app Nf Nq_48
    refine Win.go st_48 ?_
    clear st_48 Nq_48 X_47 e_47
    show Win p.tables e below _ (T_48.setTop (mkF m 88 #[.val (.int p0), .val (.int p1), .val (.int p2), .val (.int p3), .val (.int p4), .val (.int (4 : Int32)), .val (.ref b_42), .val (.long x1), .second, .unset, .unset] [(.long (-7154897129451604005 : Int64)), (.long x1)]))
    refine s_lmul (pc' := 89) X_48.here hx (hb hby at_88) rfl ?_
    refine s_lstore (pc' := 91) (l' := #[.val (.int p0), .val (.int p1), .val (.int p2), .val (.int p3), .val (.int p4), .val (.int (4 : Int32)), .val (.ref b_42), .val (.long (x1 * (-7154897129451604005 : Int64))), .second, .unset, .unset]) X_48.here hx (hb hby at_89) rfl rfl ?_
    generalize hx2 : (x1 * (-7154897129451604005 : Int64)) = x2
    show Win p.tables e below _ (T_48.setTop (mkF m 91 #[.val (.int p0), .val (.int p1), .val (.int p2), .val (.int p3), .val (.int p4), .val (.int (4 : Int32)), .val (.ref b_42), .val (.long x2), .second, .unset, .unset] []))
    refine s_lload (pc' := 93) X_48.here hx (hb hby at_91) rfl rfl ?_
    refine s_lload (pc' := 95) X_48.here hx (hb hby at_93) rfl rfl ?_
    refine s_bipush (pc' := 97) (z := (33 : Int32)) X_48.here hx (hb hby at_95) rfl rfl ?_
    refine Win.go (fun _ k => XT.lushr X_48.here hx rfl (hb hby at_97) rfl k) ?_
    show Win p.tables e below _ (T_48.setTop (mkF m 98 #[.val (.int p0), .val (.int p1), .val (.int p2), .val (.int p3), .val (.int p4), .val (.int (4 : Int32)), .val (.ref b_42), .val (.long x2), .second, .unset, .unset] [(.long (XT.ushrL x2 (33 : Int32))), (.long x2)]))
    refine s_lxor (pc' := 99) X_48.here hx (hb hby at_98) rfl ?_
    refine s_lstore (pc' := 101) (l' := #[.val (.int p0), .val (.int p1), .val (.int p2), .val (.int p3), .val (.int p4), .val (.int (4 : Int32)), .val (.ref b_42), .val (.long (x2 ^^^ (XT.ushrL x2 (33 : Int32)))), .second, .unset, .unset]) X_48.here hx (hb hby at_99) rfl rfl ?_
    generalize hx3 : (x2 ^^^ (XT.ushrL x2 (33 : Int32))) = x3
    show Win p.tables e below _ (T_48.setTop (mkF m 101 #[.val (.int p0), .val (.int p1), .val (.int p2), .val (.int p3), .val (.int p4), .val (.int (4 : Int32)), .val (.ref b_42), .val (.long x3), .second, .unset, .unset] []))
    refine s_lload (pc' := 103) X_48.here hx (hb hby at_101) rfl rfl ?_
    refine Win.go (fun _ k => X_48.ldc2Long hx hown (mvT hZ (hw _ (List.mem_of_getElem? (i := 15) rfl))) (g := (mkF m 103 #[.val (.int p0), .val (.int p1), .val (.int p2), .val (.int p3), .val (.int p4), .val (.int (4 : Int32)), .val (.ref b_42), .val (.long x3), .second, .unset, .unset] [(.long x3)])) rfl (hb hby at_103) _ k) ?_
    show Win p.tables e below _ (T_48.setTop (mkF m 106 #[.val (.int p0), .val (.int p1), .val (.int p2), .val (.int p3), .val (.int p4), .val (.int (4 : Int32)), .val (.ref b_42), .val (.long x3), .second, .unset, .unset] [(.long (-49064778989728563 : Int64)), (.long x3)]))
    obtain ⟨_, _, ⟨T_49, L_49, k_49, n_49⟩, -, X_49, ⟨Lc_49, hQ_49, l_49, y_49, z_49⟩, st_49⟩ := Jvm.LawKit.callS X_48 hx (y := (⟨"com/example/sextant/sextant/store/DictionaryHashPinLaw", "inverse", "(J)J"⟩ : MethodName)) hown (mvT hZ (hw _ (List.mem_of_getElem? (i := 10) rfl))) (mvT hZ (hw _ (List.mem_of_getElem? (i := 11) rfl))) (mvT hZ (hw _ (List.mem_of_getElem? (i := 12) rfl))) (mvT hZ (hw _ (List.mem_of_getElem? (i := 13) rfl))) (by decide) (backOf (W := 2) (rm2b l Z a0 hw []  h_46 n0 Zs ) hZ (hw _ (List.mem_of_getElem? (i := 13) rfl)) (hw _ (List.mem_of_getElem? (i := 12) rfl)) (by decide) (by decide)) (g := (mkF m 106 #[.val (.int p0), .val (.int p1), .val (.int p2), .val (.int p3), .val (.int p4), .val (.int (4 : Int32)), .val (.ref b_42), .val (.long x3), .second, .unset, .unset] [(.long (-49064778989728563 : Int64)), (.long x3)])) rfl (by rw [hml]; rfl) (argsL := [(.long (-49064778989728563 : Int64))]) (rest := [(.long x3)]) (lenOf pd_1 rfl) rfl (by show 2 * 0 + _ ≤ _; exact Nat.le_of_eq rfl) (hb hby at_106) (fun _ _ => ⟨rfl, e_48, (by decide : 1 + 0 ≤ _), (by decide : 4 + 0 ≤ _)⟩)
    dsimp only [Pt.U, Pt.locs, Pt.cells, Pt.slots] at X_49 l_49 y_49 z_49 st_49 hQ_49
    subst l_49 y_49 z_49
    obtain ⟨Nq_49, e_49, rfl⟩ := hQ_49
    replace Nf := Fr.app Nf Nq_49
    refine Win.go st_49 ?_
    clear st_49 Nq_49 X_48 e_48
    show Win p.tables e below _ (T_49.setTop (mkF m 109 #[.val (.int p0), .val (.int p1), .val (.int p2), .val (.int p3), .val (.int p4), .val (.int (4 : Int32)), .val (.ref b_42), .val (.long x3), .second, .unset, .unset] [(.long (5725274745694666757 : Int64)), (.long x3)]))
    refine s_lmul (pc' := 110) X_49.here hx (hb hby at_109) rfl ?_
    refine s_lstore (pc' := 112) (l' := #[.val (.int p0), .val (.int p1), .val (.int p2), .val (.int p3), .val (.int p4), .val (.int (4 : Int32)), .val (.ref b_42), .val (.long (x3 * (5725274745694666757 : Int64))), .second, .unset, .unset]) X_49.here hx (hb hby at_110) rfl rfl ?_
    generalize hx4 : (x3 * (5725274745694666757 : Int64)) = x4
    show Win p.tables e below _ (T_49.setTop (mkF m 112 #[.val (.int p0), .val (.int p1), .val (.int p2), .val (.int p3), .val (.int p4), .val (.int (4 : Int32)), .val (.ref b_42), .val (.long x4), .second, .unset, .unset] []))
    refine s_lload (pc' := 114) X_49.here hx (hb hby at_112) rfl rfl ?_
    refine s_lload (pc' := 116) X_49.here hx (hb hby at_114) rfl rfl ?_
    refine s_bipush (pc' := 118) (z := (33 : Int32)) X_49.here hx (hb hby at_116) rfl rfl ?_
    refine Win.go (fun _ k => XT.lushr X_49.here hx rfl (hb hby at_118) rfl k) ?_
    show Win p.tables e below _ (T_49.setTop (mkF m 119 #[.val (.int p0), .val (.int p1), .val (.int p2), .val (.int p3), .val (.int p4), .val (.int (4 : Int32)), .val (.ref b_42), .val (.long x4), .second, .unset, .unset] [(.long (XT.ushrL x4 (33 : Int32))), (.long x4)]))
    refine s_lxor (pc' := 120) X_49.here hx (hb hby at_119) rfl ?_
    refine s_lstore (pc' := 122) (l' := #[.val (.int p0), .val (.int p1), .val (.int p2), .val (.int p3), .val (.int p4), .val (.int (4 : Int32)), .val (.ref b_42), .val (.long (x4 ^^^ (XT.ushrL x4 (33 : Int32)))), .second, .unset, .unset]) X_49.here hx (hb hby at_120) rfl rfl ?_
    generalize hx5 : (x4 ^^^ (XT.ushrL x4 (33 : Int32))) = x5
    show Win p.tables e below _ (T_49.setTop (mkF m 122 #[.val (.int p0), .val (.int p1), .val (.int p2), .val (.int p3), .val (.int p4), .val (.int (4 : Int32)), .val (.ref b_42), .val (.long x5), .second, .unset, .unset] []))
    refine Win.go (fun _ k => X_49.ldc2Long hx hown (mvT hZ (hw _ (List.mem_of_getElem? (i := 16) rfl))) (g := (mkF m 122 #[.val (.int p0), .val (.int p1), .val (.int p2), .val (.int p3), .val (.int p4), .val (.int (4 : Int32)), .val (.ref b_42), .val (.long x5), .second, .unset, .unset] [])) rfl (hb hby at_122) _ k) ?_
    show Win p.tables e below _ (T_49.setTop (mkF m 125 #[.val (.int p0), .val (.int p1), .val (.int p2), .val (.int p3), .val (.int p4), .val (.int (4 : Int32)), .val (.ref b_42), .val (.long x5), .second, .unset, .unset] [(.long (1099511628211 : Int64))]))
    obtain ⟨_, _, ⟨T_50, L_50, k_50, n_50⟩, -, X_50, ⟨Lc_50, hQ_50, l_50, y_50, z_50⟩, st_50⟩ := Jvm.LawKit.callS X_49 hx (y := (⟨"com/example/sextant/sextant/store/DictionaryHashPinLaw", "inverse", "(J)J"⟩ : MethodName)) hown (mvT hZ (hw _ (List.mem_of_getElem? (i := 10) rfl))) (mvT hZ (hw _ (List.mem_of_getElem? (i := 11) rfl))) (mvT hZ (hw _ (List.mem_of_getElem? (i := 12) rfl))) (mvT hZ (hw _ (List.mem_of_getElem? (i := 13) rfl))) (by decide) (backOf (W := 0) (rm2c l Z a0 hw []  h_46 n0 Zs ) hZ (hw _ (List.mem_of_getElem? (i := 13) rfl)) (hw _ (List.mem_of_getElem? (i := 12) rfl)) (by decide) (by decide)) (g := (mkF m 125 #[.val (.int p0), .val (.int p1), .val (.int p2), .val (.int p3), .val (.int p4), .val (.int (4 : Int32)), .val (.ref b_42), .val (.long x5), .second, .unset, .unset] [(.long (1099511628211 : Int64))])) rfl (by rw [hml]; rfl) (argsL := [(.long (1099511628211 : Int64))]) (rest := []) (lenOf pd_1 rfl) rfl (by show 2 * 0 + _ ≤ _; exact Nat.le_of_eq rfl) (hb hby at_125) (fun _ _ => ⟨rfl, e_49, (by decide : 1 + 0 ≤ _), (by decide : 4 + 0 ≤ _)⟩)
    dsimp only [Pt.U, Pt.locs, Pt.cells, Pt.slots] at X_50 l_50 y_50 z_50 st_50 hQ_50
    subst l_50 y_50 z_50
    obtain ⟨Nq_50, e_50, rfl⟩ := hQ_50
    replace Nf := Fr.app Nf Nq_50
    refine Win.go st_50 ?_
    clear st_50 Nq_50 X_49 e_49
    show Win p.tables e below _ (T_50.setTop (mkF m 128 #[.val (.int p0), .val (.int p1), .val (.int p2), .val (.int p3), .val (.int p4), .val (.int (4 : Int32)), .val (.ref b_42), .val (.long x5), .second, .unset, .unset] [(.long (-3560570117845248645 : Int64))]))
    refine s_lstore (pc' := 130) (l' := #[.val (.int p0), .val (.int p1), .val (.int p2), .val (.int p3), .val (.int p4), .val (.int (4 : Int32)), .val (.ref b_42), .val (.long x5), .second, .val (.long (-3560570117845248645 : Int64)), .second]) X_50.here hx (hb hby at_128) rfl rfl ?_
    refine s_iload (pc' := 132) X_50.here hx (hb hby at_130) rfl rfl ?_
    refine s_iconst (pc' := 133) (z := (4 : Int32)) X_50.here hx (hb hby at_132) rfl rfl ?_
    refine s_icmpNo (pc' := 136) X_50.here hx (hb hby at_133) rfl (fltI (x := (4 : Int32)) (y := (4 : Int32)) (by decide)).1 ?_
    refine s_lload (pc' := 138) X_50.here hx (hb hby at_136) rfl rfl ?_
    refine s_lload (pc' := 140) X_50.here hx (hb hby at_138) rfl rfl ?_
    refine s_lmul (pc' := 141) X_50.here hx (hb hby at_140) rfl ?_
    refine s_lstore (pc' := 143) (l' := #[.val (.int p0), .val (.int p1), .val (.int p2), .val (.int p3), .val (.int p4), .val (.int (4 : Int32)), .val (.ref b_42), .val (.long (x5 * (-3560570117845248645 : Int64))), .second, .val (.long (-3560570117845248645 : Int64)), .second]) X_50.here hx (hb hby at_141) rfl rfl ?_
    generalize hy4 : (x5 * (-3560570117845248645 : Int64)) = y4
    show Win p.tables e below _ (T_50.setTop (mkF m 143 #[.val (.int p0), .val (.int p1), .val (.int p2), .val (.int p3), .val (.int p4), .val (.int (4 : Int32)), .val (.ref b_42), .val (.long y4), .second, .val (.long (-3560570117845248645 : Int64)), .second] []))
    refine s_lload (pc' := 145) X_50.here hx (hb hby at_143) rfl rfl ?_
    refine s_iload (pc' := 147) X_50.here hx (hb hby at_145) rfl rfl ?_
    refine s_sipush (pc' := 150) (z := (255 : Int32)) X_50.here hx (hb hby at_147) rfl rfl ?_
    refine s_iand (pc' := 151) X_50.here hx (hb hby at_150) rfl ?_
    refine Win.go (fun _ k => XS.i2l X_50.here hx rfl (hb hby at_151) rfl k) ?_
    show Win p.tables e below _ (T_50.setTop (mkF m 152 #[.val (.int p0), .val (.int p1), .val (.int p2), .val (.int p3), .val (.int p4), .val (.int (4 : Int32)), .val (.ref b_42), .val (.long y4), .second, .val (.long (-3560570117845248645 : Int64)), .second] [(.long ((p4 &&& (255 : Int32)).toInt64)), (.long y4)]))
    refine s_lxor (pc' := 153) X_50.here hx (hb hby at_152) rfl ?_
    refine s_lstore (pc' := 155) (l' := #[.val (.int p0), .val (.int p1), .val (.int p2), .val (.int p3), .val (.int p4), .val (.int (4 : Int32)), .val (.ref b_42), .val (.long (y4 ^^^ ((p4 &&& (255 : Int32)).toInt64))), .second, .val (.long (-3560570117845248645 : Int64)), .second]) X_50.here hx (hb hby at_153) rfl rfl ?_
    generalize hz4 : (y4 ^^^ ((p4 &&& (255 : Int32)).toInt64)) = z4
    show Win p.tables e below _ (T_50.setTop (mkF m 155 #[.val (.int p0), .val (.int p1), .val (.int p2), .val (.int p3), .val (.int p4), .val (.int (4 : Int32)), .val (.ref b_42), .val (.long z4), .second, .val (.long (-3560570117845248645 : Int64)), .second] []))
    refine s_iload (pc' := 157) X_50.here hx (hb hby at_155) rfl rfl ?_
    refine s_iconst (pc' := 158) (z := (3 : Int32)) X_50.here hx (hb hby at_157) rfl rfl ?_
    refine s_icmpNo (pc' := 161) X_50.here hx (hb hby at_158) rfl (fltI (x := (4 : Int32)) (y := (3 : Int32)) (by decide)).1 ?_
    refine s_lload (pc' := 163) X_50.here hx (hb hby at_161) rfl rfl ?_
    refine s_lload (pc' := 165) X_50.here hx (hb hby at_163) rfl rfl ?_
    refine s_lmul (pc' := 166) X_50.here hx (hb hby at_165) rfl ?_
    refine s_lstore (pc' := 168) (l' := #[.val (.int p0), .val (.int p1), .val (.int p2), .val (.int p3), .val (.int p4), .val (.int (4 : Int32)), .val (.ref b_42), .val (.long (z4 * (-3560570117845248645 : Int64))), .second, .val (.long (-3560570117845248645 : Int64)), .second]) X_50.here hx (hb hby at_166) rfl rfl ?_
    generalize hy3 : (z4 * (-3560570117845248645 : Int64)) = y3
    show Win p.tables e below _ (T_50.setTop (mkF m 168 #[.val (.int p0), .val (.int p1), .val (.int p2), .val (.int p3), .val (.int p4), .val (.int (4 : Int32)), .val (.ref b_42), .val (.long y3), .second, .val (.long (-3560570117845248645 : Int64)), .second] []))
    refine s_lload (pc' := 170) X_50.here hx (hb hby at_168) rfl rfl ?_
    refine s_iloadN (pc' := 171) X_50.here hx (hb hby at_170) rfl rfl ?_
    refine s_sipush (pc' := 174) (z := (255 : Int32)) X_50.here hx (hb hby at_171) rfl rfl ?_
    refine s_iand (pc' := 175) X_50.here hx (hb hby at_174) rfl ?_
    refine Win.go (fun _ k => XS.i2l X_50.here hx rfl (hb hby at_175) rfl k) ?_
    show Win p.tables e below _ (T_50.setTop (mkF m 176 #[.val (.int p0), .val (.int p1), .val (.int p2), .val (.int p3), .val (.int p4), .val (.int (4 : Int32)), .val (.ref b_42), .val (.long y3), .second, .val (.long (-3560570117845248645 : Int64)), .second] [(.long ((p3 &&& (255 : Int32)).toInt64)), (.long y3)]))
    refine s_lxor (pc' := 177) X_50.here hx (hb hby at_176) rfl ?_
    refine s_lstore (pc' := 179) (l' := #[.val (.int p0), .val (.int p1), .val (.int p2), .val (.int p3), .val (.int p4), .val (.int (4 : Int32)), .val (.ref b_42), .val (.long (y3 ^^^ ((p3 &&& (255 : Int32)).toInt64))), .second, .val (.long (-3560570117845248645 : Int64)), .second]) X_50.here hx (hb hby at_177) rfl rfl ?_
    generalize hz3 : (y3 ^^^ ((p3 &&& (255 : Int32)).toInt64)) = z3
    show Win p.tables e below _ (T_50.setTop (mkF m 179 #[.val (.int p0), .val (.int p1), .val (.int p2), .val (.int p3), .val (.int p4), .val (.int (4 : Int32)), .val (.ref b_42), .val (.long z3), .second, .val (.long (-3560570117845248645 : Int64)), .second] []))
    refine s_iload (pc' := 181) X_50.here hx (hb hby at_179) rfl rfl ?_
    refine s_iconst (pc' := 182) (z := (2 : Int32)) X_50.here hx (hb hby at_181) rfl rfl ?_
    refine s_icmpNo (pc' := 185) X_50.here hx (hb hby at_182) rfl (fltI (x := (4 : Int32)) (y := (2 : Int32)) (by decide)).1 ?_
    refine s_lload (pc' := 187) X_50.here hx (hb hby at_185) rfl rfl ?_
    refine s_lload (pc' := 189) X_50.here hx (hb hby at_187) rfl rfl ?_
    refine s_lmul (pc' := 190) X_50.here hx (hb hby at_189) rfl ?_
    refine s_lstore (pc' := 192) (l' := #[.val (.int p0), .val (.int p1), .val (.int p2), .val (.int p3), .val (.int p4), .val (.int (4 : Int32)), .val (.ref b_42), .val (.long (z3 * (-3560570117845248645 : Int64))), .second, .val (.long (-3560570117845248645 : Int64)), .second]) X_50.here hx (hb hby at_190) rfl rfl ?_
    generalize hy2 : (z3 * (-3560570117845248645 : Int64)) = y2
    show Win p.tables e below _ (T_50.setTop (mkF m 192 #[.val (.int p0), .val (.int p1), .val (.int p2), .val (.int p3), .val (.int p4), .val (.int (4 : Int32)), .val (.ref b_42), .val (.long y2), .second, .val (.long (-3560570117845248645 : Int64)), .second] []))
    refine s_lload (pc' := 194) X_50.here hx (hb hby at_192) rfl rfl ?_
    refine s_iloadN (pc' := 195) X_50.here hx (hb hby at_194) rfl rfl ?_
    refine s_sipush (pc' := 198) (z := (255 : Int32)) X_50.here hx (hb hby at_195) rfl rfl ?_
    refine s_iand (pc' := 199) X_50.here hx (hb hby at_198) rfl ?_
    refine Win.go (fun _ k => XS.i2l X_50.here hx rfl (hb hby at_199) rfl k) ?_
    show Win p.tables e below _ (T_50.setTop (mkF m 200 #[.val (.int p0), .val (.int p1), .val (.int p2), .val (.int p3), .val (.int p4), .val (.int (4 : Int32)), .val (.ref b_42), .val (.long y2), .second, .val (.long (-3560570117845248645 : Int64)), .second] [(.long ((p2 &&& (255 : Int32)).toInt64)), (.long y2)]))
    refine s_lxor (pc' := 201) X_50.here hx (hb hby at_200) rfl ?_
    refine s_lstore (pc' := 203) (l' := #[.val (.int p0), .val (.int p1), .val (.int p2), .val (.int p3), .val (.int p4), .val (.int (4 : Int32)), .val (.ref b_42), .val (.long (y2 ^^^ ((p2 &&& (255 : Int32)).toInt64))), .second, .val (.long (-3560570117845248645 : Int64)), .second]) X_50.here hx (hb hby at_201) rfl rfl ?_
    generalize hz2 : (y2 ^^^ ((p2 &&& (255 : Int32)).toInt64)) = z2
    show Win p.tables e below _ (T_50.setTop (mkF m 203 #[.val (.int p0), .val (.int p1), .val (.int p2), .val (.int p3), .val (.int p4), .val (.int (4 : Int32)), .val (.ref b_42), .val (.long z2), .second, .val (.long (-3560570117845248645 : Int64)), .second] []))
    refine s_iload (pc' := 205) X_50.here hx (hb hby at_203) rfl rfl ?_
    refine s_iconst (pc' := 206) (z := (1 : Int32)) X_50.here hx (hb hby at_205) rfl rfl ?_
    refine s_icmpNo (pc' := 209) X_50.here hx (hb hby at_206) rfl (fltI (x := (4 : Int32)) (y := (1 : Int32)) (by decide)).1 ?_
    refine s_lload (pc' := 211) X_50.here hx (hb hby at_209) rfl rfl ?_
    refine s_lload (pc' := 213) X_50.here hx (hb hby at_211) rfl rfl ?_
    refine s_lmul (pc' := 214) X_50.here hx (hb hby at_213) rfl ?_
    refine s_lstore (pc' := 216) (l' := #[.val (.int p0), .val (.int p1), .val (.int p2), .val (.int p3), .val (.int p4), .val (.int (4 : Int32)), .val (.ref b_42), .val (.long (z2 * (-3560570117845248645 : Int64))), .second, .val (.long (-3560570117845248645 : Int64)), .second]) X_50.here hx (hb hby at_214) rfl rfl ?_
    generalize hy1 : (z2 * (-3560570117845248645 : Int64)) = y1
    show Win p.tables e below _ (T_50.setTop (mkF m 216 #[.val (.int p0), .val (.int p1), .val (.int p2), .val (.int p3), .val (.int p4), .val (.int (4 : Int32)), .val (.ref b_42), .val (.long y1), .second, .val (.long (-3560570117845248645 : Int64)), .second] []))
    refine s_lload (pc' := 218) X_50.here hx (hb hby at_216) rfl rfl ?_
    refine s_iloadN (pc' := 219) X_50.here hx (hb hby at_218) rfl rfl ?_
    refine s_sipush (pc' := 222) (z := (255 : Int32)) X_50.here hx (hb hby at_219) rfl rfl ?_
    refine s_iand (pc' := 223) X_50.here hx (hb hby at_222) rfl ?_
    refine Win.go (fun _ k => XS.i2l X_50.here hx rfl (hb hby at_223) rfl k) ?_
    show Win p.tables e below _ (T_50.setTop (mkF m 224 #[.val (.int p0), .val (.int p1), .val (.int p2), .val (.int p3), .val (.int p4), .val (.int (4 : Int32)), .val (.ref b_42), .val (.long y1), .second, .val (.long (-3560570117845248645 : Int64)), .second] [(.long ((p1 &&& (255 : Int32)).toInt64)), (.long y1)]))
    refine s_lxor (pc' := 225) X_50.here hx (hb hby at_224) rfl ?_
    refine s_lstore (pc' := 227) (l' := #[.val (.int p0), .val (.int p1), .val (.int p2), .val (.int p3), .val (.int p4), .val (.int (4 : Int32)), .val (.ref b_42), .val (.long (y1 ^^^ ((p1 &&& (255 : Int32)).toInt64))), .second, .val (.long (-3560570117845248645 : Int64)), .second]) X_50.here hx (hb hby at_225) rfl rfl ?_
    generalize hz1 : (y1 ^^^ ((p1 &&& (255 : Int32)).toInt64)) = z1
    show Win p.tables e below _ (T_50.setTop (mkF m 227 #[.val (.int p0), .val (.int p1), .val (.int p2), .val (.int p3), .val (.int p4), .val (.int (4 : Int32)), .val (.ref b_42), .val (.long z1), .second, .val (.long (-3560570117845248645 : Int64)), .second] []))
    refine s_lload (pc' := 229) X_50.here hx (hb hby at_227) rfl rfl ?_
    refine Win.go (fun _ k => X_50.ldc2Long hx hown (mvT hZ (hw _ (List.mem_of_getElem? (i := 17) rfl))) (g := (mkF m 229 #[.val (.int p0), .val (.int p1), .val (.int p2), .val (.int p3), .val (.int p4), .val (.int (4 : Int32)), .val (.ref b_42), .val (.long z1), .second, .val (.long (-3560570117845248645 : Int64)), .second] [(.long z1)])) rfl (hb hby at_229) _ k) ?_
    show Win p.tables e below _ (T_50.setTop (mkF m 232 #[.val (.int p0), .val (.int p1), .val (.int p2), .val (.int p3), .val (.int p4), .val (.int (4 : Int32)), .val (.ref b_42), .val (.long z1), .second, .val (.long (-3560570117845248645 : Int64)), .second] [(.long (-3750763034362895579 : Int64)), (.long z1)]))
    refine s_lcmp (pc' := 233) X_50.here hx (hb hby at_232) rfl ?_
    by_cases hc233 : (z1).toInt = (-3750763034362895579 : Int)
    · skip
      refine s_ifNo (pc' := 236) X_50.here hx (hb hby at_233) rfl (teqL (x := z1) (y := (-3750763034362895579 : Int64)) hc233).2 ?_
      refine s_iconst (pc' := 237) (z := (1 : Int32)) X_50.here hx (hb hby at_236) rfl rfl ?_
      refine s_goto (pc' := 241) X_50.here hx (hb hby at_237) (by decide) (by decide) ?_
      refine winN X_50 hx hlk e_50 (t := .boolean) Bd.returns (by simp) (hb hby at_241) (by decide) (by decide) (z' := 1) rfl ⟨Nf, rfl⟩
    · skip
      refine s_ifYes (pc' := 240) X_50.here hx (hb hby at_233) (feqL (x := z1) (y := (-3750763034362895579 : Int64)) hc233).2 (by decide) (by decide) ?_
      refine s_iconst (pc' := 241) (z := (0 : Int32)) X_50.here hx (hb hby at_240) rfl rfl ?_
      exfalso
      have u : x5 = (hstep (hstep (hstep (hstep (-3750763034362895579 : Int64) (nar .byte (p1.toInt8.toInt32))) (nar .byte (p2.toInt8.toInt32))) (nar .byte (p3.toInt8.toInt32))) (nar .byte (p4.toInt8.toInt32))) := by rw [← hx5, ← hx4, ← hx3, ← hx2, ← hx1, ← hx0]; exact own_un _
      have u4 : z4 = (hstep (hstep (hstep (-3750763034362895579 : Int64) (nar .byte (p1.toInt8.toInt32))) (nar .byte (p2.toInt8.toInt32))) (nar .byte (p3.toInt8.toInt32))) := by rw [← hz4, ← hy4, u]; exact own_peel _ _
      have u3 : z3 = (hstep (hstep (-3750763034362895579 : Int64) (nar .byte (p1.toInt8.toInt32))) (nar .byte (p2.toInt8.toInt32))) := by rw [← hz3, ← hy3, u4]; exact own_peel _ _
      have u2 : z2 = (hstep (-3750763034362895579 : Int64) (nar .byte (p1.toInt8.toInt32))) := by rw [← hz2, ← hy2, u3]; exact own_peel _ _
      have u1 : z1 = (-3750763034362895579 : Int64) := by rw [← hz1, ← hy1, u2]; exact own_peel _ _
      exact hc233 (congrArg Int64.toInt u1)
set_option maxRecDepth 65536 in
set_option maxHeartbeats 40000000 in
theorem comes_1 {Post : Tables → Env → Array Value → State → Outcome → State → Prop} (hpost : ∀ tb e args s v u, (limb_1_1.after args s (.returned v) u = true ∧ limb_1_2.after args s (.returned v) u = true ∧ True) → FrameEnd s (.returned v) u (Jvm.fieldLocs frame_1_writes args s ++ Jvm.arrayLocs frame_1_arrays args s ++ Jvm.staticLocs frame_1_statics s) 16 128 → Post tb e args s (.returned v) u) :
    ArmFor flags0 classFile x code maxLocals ret World_1 tables_1 room_1 Calls_1 rest_1 Pre_1 Post := by
  intro l hfl _ _ p e ha hc hk s m args below hf hA hF happ hP
  obtain ⟨hcalls, hrest, hpre⟩ := hP
  obtain ⟨-, -, -, hnamed, -, -, -, hat⟩ := (Spec.applies_iff hf).mp happ
  obtain ⟨hg, hn⟩ := and_e (Cond.before_iff.mp (show (Jvm.Cond.and given_1 narrow_1).before args s = true from hpre))
  obtain ⟨g1, g2⟩ := and_e hg
  obtain ⟨g3, g4⟩ := and_e g2
  obtain ⟨g5, g6⟩ := and_e g4
  obtain ⟨g7, g8⟩ := and_e g6
  obtain ⟨g9, g10⟩ := and_e g8
  obtain ⟨w0, w1, w2, w3, w4, rfl⟩ : ∃ w0 w1 w2 w3 w4 : Value, args = #[w0, w1, w2, w3, w4] := by
    have hs : args.size = 5 := by simpa [Cond.value, given_1] using g1
    obtain ⟨L⟩ := args
    match L, hs with
    | [w0, w1, w2, w3, w4], _ => exact ⟨w0, w1, w2, w3, w4, rfl⟩
  have hw := fun d (hd : d ∈ tables_1) => atoms_spec (ws := Jvm.Cond.code x code maxLocals ret :: tables_1) hat d (List.mem_cons_of_mem _ hd)
  have hfit : Fit s := fun {y c} hc i hi => by
    obtain ⟨ha, rfl⟩ := Array.getElem?_eq_some_iff.mp hc
    have q := List.all_eq_true.mp ((Array.all_eq_true_iff_forall_mem.mp hF) _ (Array.getElem_mem ha)) i (List.mem_range.mpr hi)
    simpa [Array.getElem?_eq_getElem hi] using q
  obtain ⟨i0, ei0⟩ := is_v g3
  obtain rfl : w0 = (.int i0) := Option.some.inj ei0
  obtain ⟨i1, ei1⟩ := is_v g5
  obtain rfl : w1 = (.int i1) := Option.some.inj ei1
  obtain ⟨i2, ei2⟩ := is_v g7
  obtain rfl : w2 = (.int i2) := Option.some.inj ei2
  obtain ⟨i3, ei3⟩ := is_v g9
  obtain rfl : w3 = (.int i3) := Option.some.inj ei3
  obtain ⟨i4, ei4⟩ := is_v g10
  obtain rfl : w4 = (.int i4) := Option.some.inj ei4
  obtain ⟨n, o, h1, h2, h3, _, L, rfl, ⟨N, rfl⟩, hq⟩ := rm0 l s _ hw tables_1 i0 i1 i2 i3 i4 s.heap s.heap.size (Nat.le_refl _) p e ha hc hk s m _ below hf ((Spec.applies_iff_loose hf).mp happ).1 ⟨rfl, State.Warmed39.refl s, rfl⟩ trivial
  refine ⟨n, _, h1, h2, h3, hpost _ _ _ _ _ _ ⟨Cond.after_iff.mpr rfl, Cond.after_iff.mpr (eq_i res_at (Term.int_eval (1)) rfl), trivial⟩ ⟨hq.1, hq.2.1, (hq.2.2.sift fun y hy => Or.inr (N y hy)).mono (by decide) (by decide)⟩⟩
theorem main_1_1 : Claimed_1_1 := comes_1 fun _ _ _ _ _ _ h hF => ⟨h.1, hF⟩
theorem main_1_2 : Claimed_1_2 := comes_1 fun _ _ _ _ _ _ h hF => ⟨h.2.1, hF⟩
end Jvm.Pilot.@@N@@
namespace Jvm.Pilot.@@N@@
open Jvm Jvm.ClassFile Sem Op Lib Jvm.Free Jvm.Stand Jvm.Pilot.@@N@@.Jvm.D
/-! MADE BY PROGRAM (witnessworld.py) out of the Statement's table words and the real class files: 9 classes; the members and pool entries that the words name. The judged class is class 1, her method 2. -/
namespace start1
open Jvm.ClassFile
def u (s : String) : CpInfo := .utf8 (stringToUtf16 s)
/-- a pool by its gaps: so many unusable entries, then the entry; so many at the end -/
def gap : Nat → List CpInfo → List CpInfo
  | 0, r => r
  | n + 1, r => .unusable :: gap n r
def poolList (es : List (Nat × CpInfo)) (last : Nat) : List CpInfo := es.foldr (fun e r => gap e.1 (e.2 :: r)) (gap last [])
def pool (es : List (Nat × CpInfo)) (last : Nat) : Array CpInfo := ⟨poolList es last⟩
def fileOf (pool : Array CpInfo) (this : Nat) (attrs : Array Attribute := #[]) (ms : Array MethodInfo := #[]) (fl : Nat := 33) (sup : Nat := 0) (ifs : Array Nat := #[]) (fds : Array FieldInfo := #[]) : ClassFile where
  minorVersion := 0
  majorVersion := 65
  constantPool := pool
  accessFlags := fl
  thisClass := this
  superClass := sup
  interfaces := ifs
  fields := fds
  methods := ms
  attributes := attrs
def plain (name : String) (sup : Option ClassId) : Class where
  name := name
  kind := .ordinary
  loader := none
  accessFlags := 33
  super := sup
  interfaces := #[]
  cf := none
  fields := #[]
  methods := #[]
  instanceTypes := #[]
  staticTypes := #[]
  resolved := #[]
  callSites := []
  init := .initialized
  statics := none
  mirror := none

def pool0 : Array CpInfo := pool [(5, u "<init>"), (0, u "()V"), (1, .class_ 10), (1, u "java/lang/Object")] 113

def k0m0 : Method := { name := "<init>", desc := "()V", sig := { parameters := [], returnType := none }, accessFlags := 1, code := none }
/-- java/lang/Object -/
def k0 : Class := { plain "java/lang/Object" none with
  accessFlags := 33
  interfaces := #[]
  cf := some (fileOf pool0 8 #[] #[{ accessFlags := 1, nameIndex := 5, descriptorIndex := 6, attributes := #[] }] 33 0 #[] #[])
  fields := #[]
  methods := #[k0m0]
  instanceTypes := #[]
  staticTypes := #[]
  resolved := Array.replicate 124 none
  statics := none }

def pool1 : Array CpInfo := pool [(2, .class_ 4), (1, u "java/lang/Object"), (0, u "<init>"), (0, u "()V"), (0, .long 2), (1, .integer 2147483647), (0, .methodref 11 12), (0, .class_ 13), (0, .nameAndType 14 15), (0, u "com/example/sextant/sextant/store/Dictionary"), (0, u "hash"), (0, u "([B)J"), (0, .long 14181476777654086739), (1, .methodref 19 20), (0, .class_ 21), (0, .nameAndType 22 23), (0, u "com/example/sextant/sextant/store/DictionaryHashPinLaw"), (0, u "inverse"), (0, u "(J)J"), (0, .long 18397679294719823053), (1, .long 1099511628211), (1, .long 14695981039346656037), (3, u "law"), (0, u "(IIIII)Z")] 5

def k1m0 : Method := { name := "<init>", desc := "()V", sig := { parameters := [], returnType := none }, accessFlags := 2, code := none }
def k1c1 : Code := { maxStack := 8, maxLocals := 4, code := method_2_code, exceptionTable := #[], attributes := #[] }
def k1m1 : Method := { name := "inverse", desc := "(J)J", sig := { parameters := [.long], returnType := some .long }, accessFlags := 10, code := some k1c1 }
def k1c2 : Code := { maxStack := 5, maxLocals := 11, code := code, exceptionTable := #[], attributes := #[] }
def k1m2 : Method := { name := "law", desc := "(IIIII)Z", sig := { parameters := [.int, .int, .int, .int, .int], returnType := some .boolean }, accessFlags := 9, code := some k1c2 }
/-- com/example/sextant/sextant/store/DictionaryHashPinLaw -/
def k1 : Class := { plain "com/example/sextant/sextant/store/DictionaryHashPinLaw" (some 0) with
  accessFlags := 49
  interfaces := #[]
  cf := some (fileOf pool1 19 #[] #[{ accessFlags := 2, nameIndex := 5, descriptorIndex := 6, attributes := #[] }, { accessFlags := 10, nameIndex := 22, descriptorIndex := 23, attributes := #[] }, { accessFlags := 9, nameIndex := 32, descriptorIndex := 33, attributes := #[] }] 49 2 #[] #[])
  fields := #[]
  methods := #[k1m0, k1m1, k1m2]
  instanceTypes := #[]
  staticTypes := #[]
  resolved := Array.replicate 39 none
  statics := none }

def pool2 : Array CpInfo := pool [(2, .class_ 4), (1, u "java/lang/Object"), (6, .class_ 13), (1, u "com/example/sextant/sextant/store/Dictionary"), (0, u "entriesRead"), (0, u "Ljava/util/concurrent/atomic/LongAdder;"), (0, .class_ 17), (0, u "com/example/sextant/sextant/store/Dictionary$KeptBlock"), (2, u "kept"), (0, u "[Lcom/example/sextant/sextant/store/Dictionary$KeptBlock;"), (2, u "terms"), (0, u "Lcom/example/sextant/sextant/store/BlockFile;"), (2, u "hash"), (0, u "Lcom/example/sextant/sextant/store/MappedFile;"), (2, u "count"), (0, u "J"), (8, u "width"), (0, u "I"), (62, u "([B)J"), (79, u "[B"), (11, u "NO_BYTES"), (181, .long 14695981039346656037), (1, .long 1099511628211), (1, .long 18397679294719823053), (1, .long 14181476777654086739), (1, u "TERMS_PER_BLOCK"), (2, u "TERMS"), (0, u "Ljava/lang/String;"), (0, u "HASH"), (0, u "SHARED_MIN"), (1, u "KEPT_BLOCKS"), (1, u "MAX_SLOTS")] 54

def k2c0 : Code := { maxStack := 5, maxLocals := 7, code := prog_75_method_21_code, exceptionTable := #[], attributes := #[] }
def k2m0 : Method := { name := "hash", desc := "([B)J", sig := { parameters := [(.array .byte)], returnType := some .long }, accessFlags := 8, code := some k2c0 }
/-- com/example/sextant/sextant/store/Dictionary -/
def k2 : Class := { plain "com/example/sextant/sextant/store/Dictionary" (some 0) with
  accessFlags := 48
  interfaces := #[]
  cf := some (fileOf pool2 11 #[.nestMembers #[16]] #[{ accessFlags := 8, nameIndex := 28, descriptorIndex := 106, attributes := #[] }] 48 2 #[] #[{ accessFlags := 24, nameIndex := 388, descriptorIndex := 43, attributes := #[] }, { accessFlags := 26, nameIndex := 391, descriptorIndex := 392, attributes := #[] }, { accessFlags := 26, nameIndex := 393, descriptorIndex := 392, attributes := #[] }, { accessFlags := 26, nameIndex := 394, descriptorIndex := 43, attributes := #[] }, { accessFlags := 26, nameIndex := 396, descriptorIndex := 43, attributes := #[] }, { accessFlags := 26, nameIndex := 198, descriptorIndex := 186, attributes := #[] }, { accessFlags := 26, nameIndex := 398, descriptorIndex := 33, attributes := #[] }, { accessFlags := 18, nameIndex := 24, descriptorIndex := 25, attributes := #[] }, { accessFlags := 18, nameIndex := 28, descriptorIndex := 29, attributes := #[] }, { accessFlags := 18, nameIndex := 32, descriptorIndex := 33, attributes := #[] }, { accessFlags := 18, nameIndex := 42, descriptorIndex := 43, attributes := #[] }, { accessFlags := 18, nameIndex := 14, descriptorIndex := 15, attributes := #[] }, { accessFlags := 18, nameIndex := 20, descriptorIndex := 21, attributes := #[] }])
  fields := #[{ name := "TERMS_PER_BLOCK", type := .int, accessFlags := 24, slot := 0, constantValue := 0 }, { name := "TERMS", type := (.object "java/lang/String"), accessFlags := 26, slot := 1, constantValue := 0 }, { name := "HASH", type := (.object "java/lang/String"), accessFlags := 26, slot := 2, constantValue := 0 }, { name := "SHARED_MIN", type := .int, accessFlags := 26, slot := 3, constantValue := 0 }, { name := "KEPT_BLOCKS", type := .int, accessFlags := 26, slot := 4, constantValue := 0 }, { name := "NO_BYTES", type := (.array .byte), accessFlags := 26, slot := 5, constantValue := 0 }, { name := "MAX_SLOTS", type := .long, accessFlags := 26, slot := 6, constantValue := 0 }, { name := "terms", type := (.object "com/example/sextant/sextant/store/BlockFile"), accessFlags := 18, slot := 0, constantValue := 0 }, { name := "hash", type := (.object "com/example/sextant/sextant/store/MappedFile"), accessFlags := 18, slot := 1, constantValue := 0 }, { name := "count", type := .long, accessFlags := 18, slot := 2, constantValue := 0 }, { name := "width", type := .int, accessFlags := 18, slot := 3, constantValue := 0 }, { name := "entriesRead", type := (.object "java/util/concurrent/atomic/LongAdder"), accessFlags := 18, slot := 4, constantValue := 0 }, { name := "kept", type := (.array (.object "com/example/sextant/sextant/store/Dictionary$KeptBlock")), accessFlags := 18, slot := 5, constantValue := 0 }]
  methods := #[k2m0]
  instanceTypes := #[(.object "com/example/sextant/sextant/store/BlockFile"), (.object "com/example/sextant/sextant/store/MappedFile"), .long, .int, (.object "java/util/concurrent/atomic/LongAdder"), (.array (.object "com/example/sextant/sextant/store/Dictionary$KeptBlock"))]
  staticTypes := #[.int, (.object "java/lang/String"), (.object "java/lang/String"), .int, .int, (.array .byte), .long]
  resolved := Array.replicate 453 none
  statics := none }

def pool3 : Array CpInfo := pool [(1, u "java/lang/Cloneable"), (0, .class_ 1), (0, u "java/lang/Object"), (0, .class_ 3)] 3

/-- java/lang/Cloneable -/
def k3 : Class := { plain "java/lang/Cloneable" (some 0) with
  accessFlags := 1537
  interfaces := #[]
  cf := some (fileOf pool3 2 #[] #[] 1537 4 #[] #[])
  fields := #[]
  methods := #[]
  instanceTypes := #[]
  staticTypes := #[]
  resolved := Array.replicate 8 none
  statics := none }

def pool4 : Array CpInfo := pool [(1, u "java/io/Serializable"), (0, .class_ 1), (0, u "java/lang/Object"), (0, .class_ 3)] 3

/-- java/io/Serializable -/
def k4 : Class := { plain "java/io/Serializable" (some 0) with
  accessFlags := 1537
  interfaces := #[]
  cf := some (fileOf pool4 2 #[] #[] 1537 4 #[] #[])
  fields := #[]
  methods := #[]
  instanceTypes := #[]
  staticTypes := #[]
  resolved := Array.replicate 8 none
  statics := none }

/-- the primitive byte -/
def k5 : Class := { plain "byte" none with kind := .primitive 'B', accessFlags := 0x411 }
/-- [B -/
def k6 : Class := { plain "[B" (some 0) with kind := .array 5 .byte, interfaces := #[3, 4], accessFlags := 1041 }

/-- the primitive int -/
def k7 : Class := { plain "int" none with kind := .primitive 'I', accessFlags := 0x411 }
/-- [I -/
def k8 : Class := { plain "[I" (some 0) with kind := .array 7 .int, interfaces := #[3, 4], accessFlags := 1041 }

def heap : Heap := #[]
def classes : Array Class := #[k0, k1, k2, k3, k4, k5, k6, k7, k8]
def interned : List (Array UInt16 × Addr) := []
def slotsUsed : Nat := 0
def theMethod : MethodId := ⟨1, 2⟩
def args0 : Array Value := #[.int 5, .int 5, .int 5, .int 5, .int 5]
def aboutOver (below : List Frame) : State where
  vm := { classes := classes, interned := interned.toArray }
  heap := heap
  slotsUsed := slotsUsed
  threads := #[{ frames := .invoking theMethod args0 :: below }]
def below0 : List Frame := [.native { method := ⟨0, 0⟩, args := #[] }]
def about1 : State := aboutOver below0
def p0 : Program := .bare "" "" ""
def e0 : Env := launch0.env 0 0 0
theorem w_frames : about1.frames = Frame.invoking theMethod args0 :: below0 := rfl
set_option maxRecDepth 65536 in
theorem w_args : argsFit about1.vm theMethod args0 = true := by decide +kernel
set_option maxRecDepth 65536 in
theorem w_heap : heapFits about1 = true := by decide +kernel
set_option maxRecDepth 65536 in
theorem w_runnable : about1.curStatus? = some .runnable := by decide +kernel
set_option maxRecDepth 65536 in
theorem w_alone : about1.alone = true := by decide +kernel
set_option maxRecDepth 65536 in
theorem w_named : about1.methodNamed? x = some theMethod := by decide +kernel
set_option maxRecDepth 65536 in
theorem w_hears : about1.hears theMethod below0 = true := by decide +kernel
set_option maxRecDepth 65536 in
theorem w_ripe : about1.ripe theMethod args0 below0 = true := by decide +kernel
theorem w_running : about1.status = .running := rfl
set_option maxRecDepth 65536 in
theorem w_room : about1.hasRoom e0.platform room_1 = true :=
  launch0.hasRoom_least _ room_1 (by decide +kernel) (by decide +kernel) (by decide +kernel) (by decide +kernel) (by decide +kernel) (by decide +kernel)
theorem allAtoms_all (ts : List Jvm.Cond) (a : Array Jvm.Value) (st : Jvm.State) : (allAtoms ts).before a st = ts.all (fun c => c.before a st) := by
  induction ts with
  | nil => rfl
  | cons c t ih =>
    show (Jvm.Cond.and c (allAtoms t)).before a st = _
    rw [Jvm.Cond.before_and, ih, List.all_cons]
def words1 : List Jvm.Cond := Jvm.Cond.code x code maxLocals ret :: tables_1
/-- a 'code' word, met by the world's own term for the bytes: nothing is compared byte by byte -/
theorem code_word {y : MethodName} {bytes : ByteArray} {mx : Nat} {rt : Option FieldType} {a : Array Value} {s : State} {m : MethodId} {meth : Method} {c : Code} (h1 : s.methodNamed? y = some m) (h2 : s.vm.method? m = some meth) (h3 : meth.code = some c) (h4 : c.code = bytes)
    (h5 : (c.maxLocals == mx && c.exceptionTable.isEmpty && decide (c.maxStack ≤ mostOperands) && decide (meth.sig.returnType = rt) && !meth.locks && decide (parseMethodDescriptor y.desc = some meth.sig)) = true) : (Jvm.Cond.code y bytes mx rt).before a s = true := by
  simp only [Bool.and_eq_true, beq_iff_eq, Bool.not_eq_true', decide_eq_true_eq] at h5
  obtain ⟨⟨⟨⟨⟨g1, g2⟩, g3⟩, g4⟩, g5⟩, g6⟩ := h5
  simp [Cond.before, Cond.holds, Cond.value, h1, h2, h3, h4, g1, g2, g3, g4, g5, g6]
def isCode : Jvm.Cond → Bool
  | .code _ _ _ _ => true
  | _ => false
theorem all_split {L : List Jvm.Cond} {P : Jvm.Cond → Bool} (h1 : L.all (fun c => isCode c || P c) = true) (h2 : ∀ c ∈ L.filter isCode, P c = true) : L.all P = true := by
  refine List.all_eq_true.mpr fun c hc => ?_
  have h := List.all_eq_true.mp h1 c hc
  rcases Bool.eq_false_or_eq_true (isCode c) with hi | hi
  · exact h2 c (List.mem_filter.mpr ⟨hc, hi⟩)
  · simpa [hi] using h
set_option maxRecDepth 65536 in
theorem w_c0 : (Jvm.Cond.code x code maxLocals ret).before args0 about1 = true := code_word (m := ⟨1, 2⟩) (meth := k1m2) (c := k1c2) (by decide +kernel) rfl rfl rfl (by decide +kernel)
set_option maxRecDepth 65536 in
theorem w_c1 : (Jvm.Cond.code ({ cls := "com/example/sextant/sextant/store/Dictionary", name := "hash", desc := "([B)J" } : Jvm.MethodName) prog_75_method_21_code (7 : Nat) (Option.some Jvm.ClassFile.FieldType.long)).before args0 about1 = true := code_word (m := ⟨2, 0⟩) (meth := k2m0) (c := k2c0) (by decide +kernel) rfl rfl rfl (by decide +kernel)
set_option maxRecDepth 65536 in
theorem w_c2 : (Jvm.Cond.code ({ cls := "com/example/sextant/sextant/store/DictionaryHashPinLaw", name := "inverse", desc := "(J)J" } : Jvm.MethodName) method_2_code (4 : Nat) (Option.some Jvm.ClassFile.FieldType.long)).before args0 about1 = true := code_word (m := ⟨1, 1⟩) (meth := k1m1) (c := k1c1) (by decide +kernel) rfl rfl rfl (by decide +kernel)
def codes1 : List Jvm.Cond := [Jvm.Cond.code x code maxLocals ret, Jvm.Cond.code ({ cls := "com/example/sextant/sextant/store/Dictionary", name := "hash", desc := "([B)J" } : Jvm.MethodName) prog_75_method_21_code (7 : Nat) (Option.some Jvm.ClassFile.FieldType.long), Jvm.Cond.code ({ cls := "com/example/sextant/sextant/store/DictionaryHashPinLaw", name := "inverse", desc := "(J)J" } : Jvm.MethodName) method_2_code (4 : Nat) (Option.some Jvm.ClassFile.FieldType.long)]
set_option maxRecDepth 65536 in
theorem codes_eq : words1.filter isCode = codes1 := rfl
theorem w_codes : ∀ c ∈ words1.filter isCode, c.before args0 about1 = true := by
  rw [codes_eq]
  intro c hc
  simp only [codes1, List.mem_cons, List.not_mem_nil, or_false] at hc
  rcases hc with rfl | rfl | rfl
  · exact w_c0
  · exact w_c1
  · exact w_c2
set_option maxRecDepth 65536 in
theorem w_t1 : words1.all (fun c => isCode c || c.before args0 about1) = true := by decide +kernel
theorem w_tables : (allAtoms (Jvm.Cond.code x code maxLocals ret :: tables_1)).before args0 about1 = true := by
  rw [allAtoms_all]
  show words1.all (fun c => c.before args0 about1) = true
  refine all_split ?_ w_codes
  rw [w_t1]
set_option maxRecDepth 65536 in
theorem w_case : (Jvm.Cond.and given_1 narrow_1).before args0 about1 = true := by decide +kernel
theorem w_applies : (headSpec (Jvm.Cond.code x code maxLocals ret :: tables_1) room_1).applies x e0.platform about1 = true :=
  (Spec.applies_iff w_frames).mpr ⟨w_running, w_runnable, w_alone, w_named, w_hears, w_ripe, w_room, w_tables⟩
theorem atStart : AtStart classFile x code maxLocals ret World_1 tables_1 room_1 Calls_1 rest_1 Pre_1 launch0 p0 e0 about1 theMethod args0 below0 :=
  ⟨lists_1, trivial, launch0.admits_env _ _ _, launch0.least_env, fairChoices_fair.cas, fairChoices_fair.clock, w_frames, w_args, w_heap, w_applies, trivial, trivial, w_case⟩
end start1
theorem witness_1 : WitnessClaimed_1 := ⟨start1.p0, start1.e0, start1.about1, start1.theMethod, start1.args0, start1.below0, start1.atStart⟩
end Jvm.Pilot.@@N@@
