/-
  (*reader).mapping.
-/
import Derived.Test.Qxb6614869aFmtMap
import Derived.Deep.DeepCutAuto
namespace Go.Proofs.Qxb6614869aFmt
open Go.RowKit Go.Extern.Stop Go.Stop Go.Extern Go.Kit
open Go.Maps (Keyed)
set_option linter.unusedVariables false
set_option linter.unusedSimpArgs false

/-- the state of the loop: w the world at the call; rb the reader; ib the reader over the body; mb the map; B: what lies below was there when the loop began -/
structure MInv (w : World) (rb : Nat) (sl : Value) (ib mb B db o n cap : Nat) (byt : Nat → Int) (wr : World) (v8 : Value) (off k : Nat) : Prop where
  gr : w.grownBy wr (some rb)
  rdr : ∃ x, RdrAt wr rb sl x
  rs : RS wr ib db o n cap byt off
  map : ∃ D : DataW Unit, wr.ownsMap Tryf.prog 9 (plainElem Tryf.prog 4) mb k D
  row : ∃ len xs, len ≤ k ∧ wr.ownsRow B 49 2 v8 len xs
  kle : 4 * k ≤ off
  hB : B ≤ wr.heap.size

def MapPost (rb : Nat) (sl : Value) (n : Nat) (byt : Nat → Int) (off : Nat) (w : World) (e : Ending) (w' : World) : Prop :=
  w.grownBy w' (some rb) ∧ (∃ x, RdrAt w' rb sl x) ∧ ∃ m x, e = .returned (.tuple #[m, x]) ∧
    (((n < off + 2 ∨ (n : Int) < off + 2 + (byt off * 256 + byt (off + 1))) ∧ ∃ b d, x = .iface 37 (.pointer (some ⟨b, 0, none⟩)) ∧ RefAt w' b bTrunc d) ∨
     (off + 2 ≤ n ∧ (off : Int) + 2 + (byt off * 256 + byt (off + 1)) ≤ n ∧ (x = .nilIface ∨ ∃ b d, x = .iface 37 (.pointer (some ⟨b, 0, none⟩)) ∧ RefAt w' b bBad d)))

/-- where the reader at block b stands -/
def offOf (w : World) (b : Nat) : Nat := match w.cell? ⟨b, 1, none⟩ with | some (.int _ x) => x.toNat | _ => 0

theorem RS.offOf {w : World} {rb db o n cap : Nat} {byt : Nat → Int} {off : Nat} (h : RS w rb db o n cap byt off) : offOf w rb = off := by
  unfold Qxb6614869aFmt.offOf
  rw [h.rdr.c1]
  simp

theorem minv_start {w w3 : World} {rb : Nat} {sl : Value} {x : Int} {db o' z cap2 : Nat} {byt : Nat → Int} (hg : w.grownBy w3 (some rb)) (hr : RdrAt w3 rb sl x) (hd : Dat w3 db o' z byt) (hc : z ≤ cap2) (hz : z ≤ 1048576) (hdl : db < w3.heap.size) :
    MInv w rb sl w3.heap.size (w3.heap.size + 1) (w3.heap.size + 2) db o' z cap2 byt ((w3.alloc (.cells #[.slice (some ⟨db, o', none⟩) z cap2, .int .i64 0] 34 (0, 0))).alloc (.map #[] 0)) (.slice none 0 0) 0 0 := by
  have g1 : w3.grownBy (w3.alloc (.cells #[.slice (some ⟨db, o', none⟩) z cap2, .int .i64 0] 34 (0, 0))) none := World.grownBy_alloc _ _ _
  have g2 : (w3.alloc (.cells #[.slice (some ⟨db, o', none⟩) z cap2, .int .i64 0] 34 (0, 0))).grownBy ((w3.alloc (.cells #[.slice (some ⟨db, o', none⟩) z cap2, .int .i64 0] 34 (0, 0))).alloc (.map #[] 0)) none := World.grownBy_alloc _ _ _
  have e1 : (w3.alloc (.cells #[.slice (some ⟨db, o', none⟩) z cap2, .int .i64 0] 34 (0, 0))).heap.size = w3.heap.size + 1 := by simp
  have e2 : ((w3.alloc (.cells #[.slice (some ⟨db, o', none⟩) z cap2, .int .i64 0] 34 (0, 0))).alloc (.map #[] 0)).heap.size = w3.heap.size + 2 := by simp
  have g12 := g1.trans g2
  refine ⟨hg.andThen g12 (fun j hj => by cases hj), ⟨x, (g12.block rb hr.lt (by simp)).trans hr⟩, ⟨?_, hd.kept g12 (by simp), by omega, Nat.zero_le _, hc, hz, by omega⟩, ?_, ⟨0, [], Nat.le_refl _, World.ownsRow_nil _ _ _ _⟩, by omega, by omega⟩
  · exact (g2.block w3.heap.size (by omega) (by simp)).trans (MapKept.heap_alloc w3 _).1
  · have := World.ownsMap_made (H := Unit) (w3.alloc (.cells #[.slice (some ⟨db, o', none⟩) z cap2, .int .i64 0] 34 (0, 0))) Tryf.prog 9 (plainElem Tryf.prog 4)
    rw [e1] at this
    exact ⟨_, this⟩

theorem look_bool {W : World} {mb k : Nat} {D : DataW Unit} (h : W.ownsMap Tryf.prog 9 (plainElem Tryf.prog 4) mb k D) (a : ByteArray) (ha : a.size ≤ 255) :
    ∃ c : Bool, (Instr.lookup 47 (.map (some mb)) (.string a) false).run Tryf.prog W = .ok (.bool c) W := by
  obtain ⟨v, ps, hrun, hv⟩ := h.lookup keyed9 Tryf.underlying47 (zero4 W) (plainElem_bool Tryf.underlying4 false) (key9 a ha)
  obtain ⟨c, rfl⟩ := plainElem_bool_inv Tryf.underlying4 hv
  exact ⟨c, hrun⟩

theorem info49 : ∃ i, Tryf.prog.info? 49 = some i ∧ i.size = 2 ∧ i.bytes = 32 ∧ i.zero = some (.agg #[.string ⟨#[]⟩, .string ⟨#[]⟩]) := ⟨_, rfl, by kernel_rfl, by kernel_rfl, by kernel_rfl⟩
theorem two_new (w : World) (a b : ByteArray) : ∀ j u, ([.string a, .string b] : List Value)[j]? = some u → (w.alloc (.cells #[.string a, .string b] 49 (0, 0))).cell? ((⟨w.heap.size, 0, none⟩ : Addr).add j) = some u := by
  intro j u hj
  rw [add_plain]
  match j, hj with
  | 0, hj => simp at hj; subst hj; exact cell_new rfl
  | 1, hj => simp at hj; subst hj; exact cell_new rfl
  | j + 2, hj => simp at hj
theorem two_one (a b : ByteArray) : ∀ u ∈ ([.string a, .string b] : List Value), u.oneCell' = true := by
  intro u hu
  simp at hu
  rcases hu with rfl | rfl <;> rfl

/-- one property read, one block laid -/
theorem MInv.next {w : World} {rb : Nat} {sl : Value} {ib mb B db o n cap : Nat} {byt : Nat → Int} {wr : World} {v8 : Value} {off k : Nat} (h : MInv w rb sl ib mb B db o n cap byt wr v8 off k)
    {w4 W : World} {off2 : Nat} (hg : wr.grownBy w4 (some ib)) (hR : RS w4 ib db o n cap byt off2) (hW : w4.grownBy W none) (ho : off + 4 ≤ off2) (hs : w.heap.size ≤ ib ∧ rb < w.heap.size ∧ mb ≠ ib ∧ ib < B) :
    MInv w rb sl ib mb B db o n cap byt W v8 off2 k := by
  obtain ⟨D, hD⟩ := h.map
  obtain ⟨x, hx⟩ := h.rdr
  obtain ⟨len, xs, hl, hrow⟩ := h.row
  have hgg : wr.grownBy W (some ib) := hg.andThen hW (fun j hj => by cases hj)
  have hne : some rb ≠ some ib := by simp; omega
  refine ⟨h.gr.andThen hgg (fun j hj => by cases hj; exact .inl hs.1), ⟨x, (hgg.block rb hx.lt hne).trans hx⟩, hR.kept hW (by simp) (by simp), ⟨D, hD.kept hgg (by simpa using hs.2.2.1)⟩, ⟨len, xs, hl, ?_⟩, ?_, ?_⟩
  · refine World.ownsRow.kept hrow hgg ?_
    rcases hb : v8.ownBlock with _ | g
    · exact .inl rfl
    · right
      have := (hrow.lt g hb).1
      simp
      omega
  · have := h.kle; omega
  · exact Nat.le_trans h.hB hgg.size

/-- a property that is refused: what stands of the frame -/
theorem MInv.bad {w : World} {rb : Nat} {sl : Value} {ib mb B db o n cap : Nat} {byt : Nat → Int} {wr : World} {v8 : Value} {off k : Nat} (h : MInv w rb sl ib mb B db o n cap byt wr v8 off k)
    {w4 W : World} (hg : wr.grownBy w4 (some ib)) (hW : w4.grownBy W none) (h1 : w.heap.size ≤ ib) (h2 : rb < w.heap.size) : w.grownBy W (some rb) ∧ ∃ x, RdrAt W rb sl x := by
  obtain ⟨x, hx⟩ := h.rdr
  have hgg : wr.grownBy W (some ib) := hg.andThen hW (fun j hj => by cases hj)
  exact ⟨h.gr.andThen hgg (fun j hj => by cases hj; exact .inl h1), x, (hgg.block rb hx.lt (by simp; omega)).trans hx⟩

/-- the key stored, the property appended -/
theorem MInv.upd {w : World} {rb : Nat} {sl : Value} {ib mb B db o n cap : Nat} {byt : Nat → Int} {wr : World} {v8 : Value} {off k : Nat} (h : MInv w rb sl ib mb B db o n cap byt wr v8 off k)
    {w6 w7 w8 : World} {v' : Value} {len : Nat} {xs : List Value} (hD6 : ∃ D : DataW Unit, w6.ownsMap Tryf.prog 9 (plainElem Tryf.prog 4) mb (k + 1) D) (hg6 : wr.grownBy w6 (some mb)) (hg7 : w6.grownBy w7 none) (hg8 : w7.grownBy w8 v8.ownBlock)
    (hrow : w8.ownsRow B 49 2 v' len xs) (hl : len ≤ k + 1) (hk : 4 * (k + 1) ≤ off) (hs : w.heap.size ≤ mb ∧ rb < w.heap.size ∧ ib ≠ mb ∧ ib < B ∧ mb < B ∧ db ≠ mb ∧ db < B) :
    MInv w rb sl ib mb B db o n cap byt w8 v' off (k + 1) := by
  obtain ⟨h1, h2, h3, h4, h5, h6, h7⟩ := hs
  obtain ⟨D, hD⟩ := hD6
  obtain ⟨x, hx⟩ := h.rdr
  obtain ⟨len0, xs0, hl0, hrow0⟩ := h.row
  have hown : ∀ g, v8.ownBlock = some g → B ≤ g := fun g hb => (hrow0.lt g hb).1
  have far : ∀ b, b < B → some b ≠ v8.ownBlock := fun b hb e => by have := hown b e.symm; omega
  have g1 : w.grownBy w6 (some rb) := h.gr.andThen hg6 (fun j hj => by cases hj; exact .inl h1)
  have g2 : w.grownBy w7 (some rb) := g1.andThen hg7 (fun j hj => by cases hj)
  have g3 : w.grownBy w8 (some rb) := g2.andThen hg8 (fun j hj => .inl (by have := hown j hj; omega))
  have hx6 : RdrAt w6 rb sl x := (hg6.block rb hx.lt (by simp; omega)).trans hx
  have hx7 : RdrAt w7 rb sl x := (hg7.block rb hx6.lt (by simp)).trans hx6
  have hx8 : RdrAt w8 rb sl x := (hg8.block rb hx7.lt (far rb (by omega))).trans hx7
  refine ⟨g3, ⟨x, hx8⟩, ((h.rs.kept hg6 (by simpa using h6) (by simpa using h3)).kept hg7 (by simp) (by simp)).kept hg8 (far db h7) (far ib h4), ⟨D, (hD.kept hg7 (by simp)).kept hg8 (far mb h5)⟩, ⟨len, xs, hl, hrow⟩, hk, ?_⟩
  have a1 := hg6.size
  have a2 := hg7.size
  have a3 := hg8.size
  have a4 := h.hB
  omega

set_option maxHeartbeats 1600000 in
set_option maxRecDepth 100000 in
theorem mapping7 (F : Interp) {rb db o n cap : Nat} {byt : Nat → Int} {off : Nat} {w : World} (hF : F.told.answers w.tape) (hR : RS w rb db o n cap byt off) :
    Calls Tryf.prog 7 #[.pointer (some ⟨rb, 0, none⟩)] w (MapPost rb (.slice (some ⟨db, o, none⟩) n cap) n byt off w) := by
  have HC := Lib.hid (uint16_9 F hF hR)
  have HF := Lib.hid hF
  have hrlt := hR.rdr.lt
  have hdlt := hR.dlt
  have hdne := hR.ne
  have hnn := hR.small
  have HR0 := Lib.hid hR.rdr
  have HB := Lib.hid hR.dat
  clear hR hF
  have hmm := @run_makeMap Tryf.prog
  go_enter Tryf.func7, Tryf.ntmps7
  go_wp2_with fail
  refine Calls.mono HC.out ?_
  rintro e w2 ⟨hg, v, x, rfl, ⟨hle, rfl, rfl, hR2⟩ | ⟨hsh, hrs, b, d, rfl, hra, hd, hb⟩⟩
  · obtain ⟨h0, h1⟩ := (HB.out off (by omega)).2
    obtain ⟨h0', h1'⟩ := (HB.out (off + 1) (by omega)).2
    obtain ⟨z, hz⟩ : ∃ z : Nat, byt off * 256 + byt (off + 1) = (z : Int) := ⟨(byt off * 256 + byt (off + 1)).toNat, by omega⟩
    have hz2 : z ≤ 65535 := by omega
    have HZ := Lib.hid hz
    rw [hz]
    have HC2 := Lib.hid (bytes10 F z (by rw [hg.tape]; exact HF.out) hR2 (by omega))
    have HG := Lib.hid hg
    have hwz := wrap64 (z : Int) (by omega) (by omega)
    clear HC hR2 hg h0 h1 h0' h1' hz HR0
    go_wp2_with fail
    refine Calls.mono HC2.out ?_
    rintro e w3 ⟨hg3, v, x, rfl, ⟨hle3, rfl, ⟨o', ho', rfl⟩, hR3⟩ | ⟨hsh3, rfl, hrs, b, d, rfl, hra, hd, hb⟩⟩
    · have hrl3 := hR3.rdr.lt
      have hdl3 := hR3.dlt
      have HD := Lib.hid (hR3.dat.sub hle3 ho')
      have HX := Lib.hid (show w.grownBy w3 (some rb) ∧ RdrAt w3 rb (.slice (some ⟨db, o, none⟩) n cap) ((off + 2 + z : Nat) : Int) from ⟨HG.out.trans hg3, hR3.rdr⟩)
      have hcz : z ≤ cap - (off + 2) := by have := hR3.cap; omega
      generalize hcap : cap - (off + 2) = cap2 at *
      clear HC2 HG hg3 hR3 HB
      go_wp2_with fail
      go_loopw [8] (fun v8 wr => ∃ off' k, MInv w rb (.slice (some ⟨db, o, none⟩) n cap) w3.heap.size (w3.heap.size + 1) (w3.heap.size + 2) db o' z cap2 (fun j => byt (off + 2 + j)) wr v8 off' k) (fun _ wr => z - offOf wr w3.heap.size)
      case atStart => exact ⟨0, 0, minv_start HX.out.1 HX.out.2 HD.out hcz (by omega) hdl3⟩
      case round =>
        obtain ⟨off', k, hM⟩ := hrel
        have c0 := hM.rs.rdr.c0
        have c1 := hM.rs.rdr.c1
        have HM := Lib.hid hM
        clear hM hmm
        by_cases hlt : off' < z
        · have g : decide ((off' : Int) < (z : Int)) = true := decide_eq_true (by omega)
          have HC := Lib.hid (property11 F (w := wr) (by rw [HM.out.gr.tape]; exact HF.out) HM.out.rs)
          go_wp2_with fail
          refine Calls.mono HC.out ?_
          rintro e w4 ⟨hg, a, b, x, rfl, ha, hb, ⟨rfl, off2, ho2, hR4⟩ | ⟨eb, r, d, rfl, hra, hr, hd, hbb⟩⟩
          · obtain ⟨D, hD⟩ := HM.out.map
            have hD5 := (hD.kept hg (by simp)).alloc (.cells #[.string a, .string b] 49 (0, 0))
            obtain ⟨c, hlook⟩ := look_bool hD5 a ha
            have hM5 := HM.out.next (W := w4.alloc (.cells #[.string a, .string b] 49 (0, 0))) hg hR4 (World.grownBy_alloc _ _ _) ho2 ⟨Nat.le_trans HX.out.1.size (Nat.le_refl _), hrlt, by omega, by omega⟩
            have HM5 := Lib.hid hM5
            have hp5 : PB (w4.alloc (.cells #[.string a, .string b] 49 (0, 0))) w4.heap.size a b := (MapKept.heap_alloc w4 _).1
            cases c with
            | true =>
              clear HC c0 c1 hD hD5 hM5 hp5
              go_wp2
              go_roundw
              case rel => exact ⟨_, _, HM5.out⟩
              case measure => rw [HM5.out.rs.offOf, HM.out.rs.offOf]; omega
            | false =>
              have hkle := HM.out.kle
              obtain ⟨w6, hupd, hD6, hg6⟩ := hD5.update keyed9 Tryf.underlying47 (by unfold maxLen; omega) (key9 a ha) (plainElem_bool Tryf.underlying4 true)
              have hsz4 : w3.heap.size + 2 ≤ w4.heap.size := Nat.le_trans HM.out.hB hg.size
              have hp6 := hp5.kept hg6 (by simp; omega)
              have q0 := hp6.c0
              have q1 := hp6.c1
              obtain ⟨len, xs, hlk, hrow5⟩ := hM5.row
              have hrow6 : w6.ownsRow (w3.heap.size + 2) 49 2 u8 len xs := World.ownsRow.kept hrow5 hg6 (by
                rcases hb : u8.ownBlock with _ | g
                · exact .inl rfl
                · right
                  have := (hrow5.lt g hb).1
                  simp
                  omega)
              have hrow7 : (w6.alloc (.cells #[.string a, .string b] 49 (0, 0))).ownsRow (w3.heap.size + 2) 49 2 u8 len xs := World.ownsRow.kept hrow6 (World.grownBy_alloc _ _ none) (by rcases hb : u8.ownBlock with _ | g; exact .inl rfl; exact .inr (by simp))
              obtain ⟨i, hi, hisz, hiby, hiz⟩ := info49
              have HP7 := Lib.hid hrow7
              have HP6 := Lib.hid hp6
              have HD6 := Lib.hid hD6
              have HG6 := Lib.hid hg6
              clear HC c0 c1 hD hD5 hM5 hp5 hrow5 hrow6 hrow7 hp6 hD6 hg6
              go_wp2_with (at_builtin; refine wpList_append_lies _ rfl _ _ 25 rfl (w3.heap.size + 2) 49 i (.agg #[.string ⟨#[]⟩, .string ⟨#[]⟩]) 2 32 Tryf.underlying25 hi hiz hisz hiby rfl (by decide) u8 len xs rfl HP7.out ⟨w6.heap.size, 0, none⟩ 1 1 [.string a, .string b] rfl rfl (two_new w6 a b) (two_one a b) (by decide) (by unfold maxLen; omega) (by omega) (by have := HG6.out.size; simp at this ⊢; omega) (w6.alloc (.cells #[.string a, .string b] 49 (0, 0))).heap.size rfl ?_)
              intro g8 cp8 w8 hrow8 hg8 hor8 hlt8
              have HM8 := Lib.hid (MInv.upd HM5.out ⟨_, HD6.out⟩ HG6.out (World.grownBy_alloc w6 (.cells #[.string a, .string b] 49 (0, 0)) none) hg8 hrow8 (by omega) (by omega) ⟨by have := HX.out.1.size; omega, hrlt, by omega, by omega, by omega, by omega, by omega⟩)
              clear hrow8 hg8 hor8 hlt8 HP6 HD6 HG6 HP7
              go_wp2
              go_roundw
              case rel => exact ⟨_, _, HM8.out⟩
              case measure => rw [HM8.out.rs.offOf, HM.out.rs.offOf]; omega
          · have hM5 := HM.out.bad (W := (w4.alloc (.cells #[.string a, .string b] 49 (0, 0))).alloc (.cells #[.iface 3 (.int .i64 (off' : Int)), .iface 42 (.int .u16 (z : Int)), .iface 37 (.pointer (some ⟨eb, 0, none⟩))] 20 (0, 0))) hg ((World.grownBy_alloc _ _ none).trans (World.grownBy_alloc _ _ _)) (by have := HX.out.1.size; omega) hrlt
            have hra6 : RefAt ((w4.alloc (.cells #[.string a, .string b] 49 (0, 0))).alloc (.cells #[.iface 3 (.int .i64 (off' : Int)), .iface 42 (.int .u16 (z : Int)), .iface 37 (.pointer (some ⟨eb, 0, none⟩))] 20 (0, 0))) eb r d := hra.kept (q := none) ((World.grownBy_alloc _ _ none).trans (World.grownBy_alloc _ _ _)) (by simp)
            have e5 : (w4.alloc (.cells #[.string a, .string b] 49 (0, 0))).heap.size = w4.heap.size + 1 := by simp
            have HB2 := Lib.hid (refuseEntry F (off' : Int) (z : Int) eb r d (w4.heap.size + 1) ((w4.alloc (.cells #[.string a, .string b] 49 (0, 0))).alloc (.cells #[.iface 3 (.int .i64 (off' : Int)), .iface 42 (.int .u16 (z : Int)), .iface 37 (.pointer (some ⟨eb, 0, none⟩))] 20 (0, 0))) (by rw [hM5.1.tape]; exact HF.out) hra6 hr hd (by rw [← e5]; exact cell_new rfl) (by rw [← e5]; exact cell_new rfl) (by rw [← e5]; exact cell_new rfl))
            have HM5 := Lib.hid hM5
            clear HC c0 c1 hM5 hra6 hra hg e5
            go_wp2_with fail
            refine Calls.mono HB2.out ?_
            rintro e w7 ⟨b7, d7, rfl, hra7, _, _, hbel7⟩
            have HX7 := Lib.hid (show w.grownBy w7 (some rb) ∧ (∃ x, RdrAt w7 rb (.slice (some ⟨db, o, none⟩) n cap) x) ∧ RefAt w7 b7 bBad d7 from ⟨HM5.out.1.trans (grown_of_below hbel7 _), by
              obtain ⟨x, hx⟩ := HM5.out.2
              exact ⟨x, (hbel7.block rb hx.lt).trans hx⟩, hra7⟩)
            clear HB2 HM5 hra7 hbel7
            go_wp2
            go_ret2
            exact ⟨HX7.out.1, HX7.out.2.1, _, _, rfl, .inr ⟨hle, by rw [HZ.out]; omega, .inr ⟨b7, d7, rfl, HX7.out.2.2⟩⟩⟩
        · have g : decide ((off' : Int) < (z : Int)) = false := decide_eq_false (by omega)
          go_wp2
          go_ret2
          exact ⟨HM.out.gr, HM.out.rdr, _, _, rfl, .inr ⟨hle, by rw [HZ.out]; omega, .inl rfl⟩⟩
    · have HX := Lib.hid (show w.grownBy w3 (some rb) ∧ RefAt w3 b bTrunc d ∧ (∃ x, RdrAt w3 rb (.slice (some ⟨db, o, none⟩) n cap) x) from ⟨HG.out.trans hg3, hra, _, hrs.rdr⟩)
      clear HC2 HG hg3 hra hb hrs
      go_wp2
      go_ret2
      exact ⟨HX.out.1, HX.out.2.2, _, _, rfl, .inl ⟨.inr (by rw [HZ.out]; omega), b, d, rfl, HX.out.2.1⟩⟩
  · have HX := Lib.hid (show w.grownBy w2 (some rb) ∧ RefAt w2 b bTrunc d ∧ (∃ x, RdrAt w2 rb (.slice (some ⟨db, o, none⟩) n cap) x) from ⟨hg, hra, _, hrs.rdr⟩)
    clear HC hg hra hrs
    go_wp2
    go_ret2
    exact ⟨HX.out.1, HX.out.2.2, _, _, rfl, .inl ⟨.inl hsh, b, d, rfl, HX.out.2.1⟩⟩

end Go.Proofs.Qxb6614869aFmt
