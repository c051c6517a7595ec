/- impl.plain: a candidate as plain data, where it has no extension but its TCP type. -/
import Derived.Test.YtmfdbcfpcifmcaaGreatDoorMf
namespace Go.Proofs.YtmfdbcfpcifmcaaGreatDoor
open Go.RowKit

theorem tenSet {w : World} {g : Nat} {T : TypeId} {z0 z1 z2 z3 z4 z5 z6 z7 z8 z9 : Value} (h : Row w g T #[z0, z1, z2, z3, z4, z5, z6, z7, z8, z9]) (v0 v1 v2 v3 v4 v5 v6 v7 v8 v9 : Value) :
    Row ((((((((((w.setCell ⟨g, 0, none⟩ v0).setCell ⟨g, 1, none⟩ v1).setCell ⟨g, 2, none⟩ v2).setCell ⟨g, 3, none⟩ v3).setCell ⟨g, 4, none⟩ v4).setCell ⟨g, 5, none⟩ v5).setCell ⟨g, 6, none⟩ v6).setCell ⟨g, 7, none⟩ v7).setCell ⟨g, 8, none⟩ v8).setCell ⟨g, 9, none⟩ v9) g T #[v0, v1, v2, v3, v4, v5, v6, v7, v8, v9] := by
  have h0 : Row (w.setCell ⟨g, 0, none⟩ v0) g T #[v0, z1, z2, z3, z4, z5, z6, z7, z8, z9] := h.set 0 v0
  have h1 : Row ((w.setCell ⟨g, 0, none⟩ v0).setCell ⟨g, 1, none⟩ v1) g T #[v0, v1, z2, z3, z4, z5, z6, z7, z8, z9] := h0.set 1 v1
  have h2 : Row (((w.setCell ⟨g, 0, none⟩ v0).setCell ⟨g, 1, none⟩ v1).setCell ⟨g, 2, none⟩ v2) g T #[v0, v1, v2, z3, z4, z5, z6, z7, z8, z9] := h1.set 2 v2
  have h3 : Row ((((w.setCell ⟨g, 0, none⟩ v0).setCell ⟨g, 1, none⟩ v1).setCell ⟨g, 2, none⟩ v2).setCell ⟨g, 3, none⟩ v3) g T #[v0, v1, v2, v3, z4, z5, z6, z7, z8, z9] := h2.set 3 v3
  have h4 : Row (((((w.setCell ⟨g, 0, none⟩ v0).setCell ⟨g, 1, none⟩ v1).setCell ⟨g, 2, none⟩ v2).setCell ⟨g, 3, none⟩ v3).setCell ⟨g, 4, none⟩ v4) g T #[v0, v1, v2, v3, v4, z5, z6, z7, z8, z9] := h3.set 4 v4
  have h5 : Row ((((((w.setCell ⟨g, 0, none⟩ v0).setCell ⟨g, 1, none⟩ v1).setCell ⟨g, 2, none⟩ v2).setCell ⟨g, 3, none⟩ v3).setCell ⟨g, 4, none⟩ v4).setCell ⟨g, 5, none⟩ v5) g T #[v0, v1, v2, v3, v4, v5, z6, z7, z8, z9] := h4.set 5 v5
  have h6 : Row (((((((w.setCell ⟨g, 0, none⟩ v0).setCell ⟨g, 1, none⟩ v1).setCell ⟨g, 2, none⟩ v2).setCell ⟨g, 3, none⟩ v3).setCell ⟨g, 4, none⟩ v4).setCell ⟨g, 5, none⟩ v5).setCell ⟨g, 6, none⟩ v6) g T #[v0, v1, v2, v3, v4, v5, v6, z7, z8, z9] := h5.set 6 v6
  have h7 : Row ((((((((w.setCell ⟨g, 0, none⟩ v0).setCell ⟨g, 1, none⟩ v1).setCell ⟨g, 2, none⟩ v2).setCell ⟨g, 3, none⟩ v3).setCell ⟨g, 4, none⟩ v4).setCell ⟨g, 5, none⟩ v5).setCell ⟨g, 6, none⟩ v6).setCell ⟨g, 7, none⟩ v7) g T #[v0, v1, v2, v3, v4, v5, v6, v7, z8, z9] := h6.set 7 v7
  have h8 : Row (((((((((w.setCell ⟨g, 0, none⟩ v0).setCell ⟨g, 1, none⟩ v1).setCell ⟨g, 2, none⟩ v2).setCell ⟨g, 3, none⟩ v3).setCell ⟨g, 4, none⟩ v4).setCell ⟨g, 5, none⟩ v5).setCell ⟨g, 6, none⟩ v6).setCell ⟨g, 7, none⟩ v7).setCell ⟨g, 8, none⟩ v8) g T #[v0, v1, v2, v3, v4, v5, v6, v7, v8, z9] := h7.set 8 v8
  have h9 : Row ((((((((((w.setCell ⟨g, 0, none⟩ v0).setCell ⟨g, 1, none⟩ v1).setCell ⟨g, 2, none⟩ v2).setCell ⟨g, 3, none⟩ v3).setCell ⟨g, 4, none⟩ v4).setCell ⟨g, 5, none⟩ v5).setCell ⟨g, 6, none⟩ v6).setCell ⟨g, 7, none⟩ v7).setCell ⟨g, 8, none⟩ v8).setCell ⟨g, 9, none⟩ v9) g T #[v0, v1, v2, v3, v4, v5, v6, v7, v8, v9] := h8.set 9 v9
  exact h9
theorem tenBelow {a w : World} {B g : Nat} (h : Below B a w) (hB : B ≤ g) (v0 v1 v2 v3 v4 v5 v6 v7 v8 v9 : Value) : Below B a ((((((((((w.setCell ⟨g, 0, none⟩ v0).setCell ⟨g, 1, none⟩ v1).setCell ⟨g, 2, none⟩ v2).setCell ⟨g, 3, none⟩ v3).setCell ⟨g, 4, none⟩ v4).setCell ⟨g, 5, none⟩ v5).setCell ⟨g, 6, none⟩ v6).setCell ⟨g, 7, none⟩ v7).setCell ⟨g, 8, none⟩ v8).setCell ⟨g, 9, none⟩ v9) := (below_st (below_st (below_st (below_st (below_st (below_st (below_st (below_st (below_st (below_st h hB 0 v0) hB 1 v1) hB 2 v2) hB 3 v3) hB 4 v4) hB 5 v5) hB 6 v6) hB 7 v7) hB 8 v8) hB 9 v9)

set_option maxRecDepth 100000 in
set_option maxHeartbeats 4000000 in
theorem plainC (dyn : Nat) (hM : Meths dyn) {w : World} {g : Nat} {c : Cand} {rel : Option Addr} (h : CCells w g c rel) (ht0 : 0 ≤ c.tcp) (ht3 : c.tcp ≤ 3) (hx : c.exts = .slice none 0 0)
    (hk1 : 1 ≤ c.typ) (hk4 : c.typ ≤ 4) (hc0 : 0 ≤ c.comp) (hc : c.comp ≤ 65535)
    (F : ByteArray) (hF : ∀ W, Below w.heap.size w W → Calls Tryz.prog 150 #[.pointer (some ⟨g, 0, none⟩)] W fun e w' => e = .returned (.string F) ∧ Below W.heap.size W w')
    (Pr : Nat) (hP : ∀ W, Below w.heap.size w W → Calls Tryz.prog 157 #[.pointer (some ⟨g, 0, none⟩)] W fun e w' => e = .returned (.int .u32 (Pr : Int)) ∧ Below W.heap.size W w')
    (hrel : RelAt w rel) :
    Calls Tryz.prog 42 #[.iface dyn (.pointer (some ⟨g, 0, none⟩))] w fun e w' => ∃ (rp : Option Addr) (rn rc : Nat), e = .returned (.agg #[.int .i64 c.typ, .int .i64 c.net, .int .i64 c.tcp, .string F, .int .i64 c.comp, .int .u32 (Pr : Int), .string c.addr, .int .i64 c.port, .slice rp rn rc, .slice none 0 0]) ∧ Below w.heap.size w w' := by
  obtain ⟨mType, mNet, mTcp, mFound, mComp, mPrio, mAddr, mPort, mRel, mExt, -, -, -⟩ := hM
  have hgl := h.lt
  have hbA := below_al (Below.refl w.heap.size w) (Nat.le_refl _) (.cells #[.int .i64 0, .int .i64 0, .int .i64 0, .string ⟨#[]⟩, .int .i64 0, .int .u32 0, .string ⟨#[]⟩, .int .i64 0, .slice none 0 0, .slice none 0 0] 26)
  have hrA := Row.new w 26 #[.int .i64 0, .int .i64 0, .int .i64 0, .string ⟨#[]⟩, .int .i64 0, .int .u32 0, .string ⟨#[]⟩, .int .i64 0, .slice none 0 0, .slice none 0 0]
  go_enter Tryz.func42, Tryz.ntmps42
  go_wp2_with fail
  generalize w.alloc (.cells #[.int .i64 0, .int .i64 0, .int .i64 0, .string ⟨#[]⟩, .int .i64 0, .int .u32 0, .string ⟨#[]⟩, .int .i64 0, .slice none 0 0, .slice none 0 0] 26) = W at *
  have hlA := hbA.size
  refine (gType (h.below hbA hgl)).mono ?_
  rintro e w' ⟨rfl, rfl⟩
  go_wp2_with fail
  refine (gNet (h.below hbA hgl)).mono ?_
  rintro e w' ⟨rfl, rfl⟩
  go_wp2_with fail
  refine (gTcp (h.below hbA hgl)).mono ?_
  rintro e w' ⟨rfl, rfl⟩
  go_wp2_with fail
  refine (hF _ hbA).mono ?_
  rintro e w1 ⟨rfl, hb⟩
  have hr1 := hrA.below hb hrA.lt
  have hb1 := hbA.trans (hb.mono hlA)
  have hl1 := hb1.size
  clear hb hbA hrA
  go_wp2_with fail
  refine (gComp (h.below hb1 hgl)).mono ?_
  rintro e w' ⟨rfl, rfl⟩
  go_wp2_with fail
  refine (hP _ hb1).mono ?_
  rintro e w2 ⟨rfl, hb⟩
  have hr2 := hr1.below hb hr1.lt
  have hb2 := hb1.trans (hb.mono hl1)
  have hl2 := hb2.size
  clear hb hb1 hr1
  go_wp2_with fail
  refine (gAddr (h.below hb2 hgl)).mono ?_
  rintro e w' ⟨rfl, rfl⟩
  go_wp2_with fail
  refine (gPort (h.below hb2 hgl)).mono ?_
  rintro e w' ⟨rfl, rfl⟩
  go_wp2_with fail
  have hbB := hb2.trans (below_al (Below.refl w2.heap.size w2) (Nat.le_refl _) (.cells #[.int .i64 c.typ, .int .i64 c.net, .int .i64 c.tcp, .string F, .int .i64 c.comp, .int .u32 (Pr : Int), .string c.addr, .int .i64 c.port, .slice none 0 0, .slice none 0 0] 26) |>.mono hl2)
  have hrB := Row.new w2 26 #[.int .i64 c.typ, .int .i64 c.net, .int .i64 c.tcp, .string F, .int .i64 c.comp, .int .u32 (Pr : Int), .string c.addr, .int .i64 c.port, .slice none 0 0, .slice none 0 0]
  have hrC := hr2.alloc (.cells #[.int .i64 c.typ, .int .i64 c.net, .int .i64 c.tcp, .string F, .int .i64 c.comp, .int .u32 (Pr : Int), .string c.addr, .int .i64 c.port, .slice none 0 0, .slice none 0 0] 26)
  generalize w2.alloc (.cells #[.int .i64 c.typ, .int .i64 c.net, .int .i64 c.tcp, .string F, .int .i64 c.comp, .int .u32 (Pr : Int), .string c.addr, .int .i64 c.port, .slice none 0 0, .slice none 0 0] 26) = X at *
  have hne : w.heap.size ≠ w2.heap.size := by have := hr2.lt; omega
  have hbb : w.heap.size ≤ w2.heap.size := hl2
  generalize w2.heap.size = b at *
  clear hr2 hb2
  refine (gRel (h.below hbB hgl)).mono ?_
  rintro e w' ⟨rfl, rfl⟩
  rcases hrel with rfl | ⟨gr, ra, rq, rfl, q0, q1, hra0, hra, hrp1, hrp⟩
  · go_wp2_with fail
    obtain ⟨rp, rn, rc, hrp⟩ : ∃ (rp : Option Addr) (rn rc : Nat), (Value.slice none 0 0) = .slice rp rn rc := ⟨_, _, _, rfl⟩
    have hbY := hbB
    have hrY : Row X b 26 #[.int .i64 c.typ, .int .i64 c.net, .int .i64 c.tcp, .string F, .int .i64 c.comp, .int .u32 (Pr : Int), .string c.addr, .int .i64 c.port, .slice rp rn rc, .slice none 0 0] := by rw [← hrp]; exact hrB
    have hrE := hrC
    clear hrB hrC hbB hrp
    by_cases ht : c.tcp = 0
    · refine (exts0 (h.below hbY hgl) ht hx).mono ?_
      rintro e w5 ⟨px, nx, rfl, hb⟩
      clear ht
      have hrB5 := hrY.below hb hrY.lt
      have hrE5 := hrE.below hb hrE.lt
      have hb5 := hbY.trans (hb.mono hbY.size)
      clear hb hbY hrY hrE
      go_wp2_with fail
      have c0 : w5.cell? ⟨b, 0, none⟩ = some (.int .i64 c.typ) := hrB5.cell 0
      have e0 : w5.cell? ⟨w.heap.size, 0, none⟩ = some (.int .i64 0) := hrE5.cell 0
      have f0 : w5.frozen? ⟨w.heap.size, 0, none⟩ = false := hrE5.free 0
      have c1 : w5.cell? ⟨b, 1, none⟩ = some (.int .i64 c.net) := hrB5.cell 1
      have e1 : w5.cell? ⟨w.heap.size, 1, none⟩ = some (.int .i64 0) := hrE5.cell 1
      have f1 : w5.frozen? ⟨w.heap.size, 1, none⟩ = false := hrE5.free 1
      have c2 : w5.cell? ⟨b, 2, none⟩ = some (.int .i64 c.tcp) := hrB5.cell 2
      have e2 : w5.cell? ⟨w.heap.size, 2, none⟩ = some (.int .i64 0) := hrE5.cell 2
      have f2 : w5.frozen? ⟨w.heap.size, 2, none⟩ = false := hrE5.free 2
      have c3 : w5.cell? ⟨b, 3, none⟩ = some (.string F) := hrB5.cell 3
      have e3 : w5.cell? ⟨w.heap.size, 3, none⟩ = some (.string ⟨#[]⟩) := hrE5.cell 3
      have f3 : w5.frozen? ⟨w.heap.size, 3, none⟩ = false := hrE5.free 3
      have c4 : w5.cell? ⟨b, 4, none⟩ = some (.int .i64 c.comp) := hrB5.cell 4
      have e4 : w5.cell? ⟨w.heap.size, 4, none⟩ = some (.int .i64 0) := hrE5.cell 4
      have f4 : w5.frozen? ⟨w.heap.size, 4, none⟩ = false := hrE5.free 4
      have c5 : w5.cell? ⟨b, 5, none⟩ = some (.int .u32 (Pr : Int)) := hrB5.cell 5
      have e5 : w5.cell? ⟨w.heap.size, 5, none⟩ = some (.int .u32 0) := hrE5.cell 5
      have f5 : w5.frozen? ⟨w.heap.size, 5, none⟩ = false := hrE5.free 5
      have c6 : w5.cell? ⟨b, 6, none⟩ = some (.string c.addr) := hrB5.cell 6
      have e6 : w5.cell? ⟨w.heap.size, 6, none⟩ = some (.string ⟨#[]⟩) := hrE5.cell 6
      have f6 : w5.frozen? ⟨w.heap.size, 6, none⟩ = false := hrE5.free 6
      have c7 : w5.cell? ⟨b, 7, none⟩ = some (.int .i64 c.port) := hrB5.cell 7
      have e7 : w5.cell? ⟨w.heap.size, 7, none⟩ = some (.int .i64 0) := hrE5.cell 7
      have f7 : w5.frozen? ⟨w.heap.size, 7, none⟩ = false := hrE5.free 7
      have c8 : w5.cell? ⟨b, 8, none⟩ = some (.slice rp rn rc) := hrB5.cell 8
      have e8 : w5.cell? ⟨w.heap.size, 8, none⟩ = some (.slice none 0 0) := hrE5.cell 8
      have f8 : w5.frozen? ⟨w.heap.size, 8, none⟩ = false := hrE5.free 8
      have c9 : w5.cell? ⟨b, 9, none⟩ = some (.slice none 0 0) := hrB5.cell 9
      have e9 : w5.cell? ⟨w.heap.size, 9, none⟩ = some (.slice none 0 0) := hrE5.cell 9
      have f9 : w5.frozen? ⟨w.heap.size, 9, none⟩ = false := hrE5.free 9
      refine wp_loop_rounds 1 ?_
      rw [rounds_succ]
      go_wp2_with fail
      have hZ := tenSet hrE5 (.int .i64 c.typ) (.int .i64 c.net) (.int .i64 c.tcp) (.string F) (.int .i64 c.comp) (.int .u32 (Pr : Int)) (.string c.addr) (.int .i64 c.port) (.slice rp rn rc) (.slice none 0 0)
      have hBZ := tenBelow hb5 (Nat.le_refl _) (.int .i64 c.typ) (.int .i64 c.net) (.int .i64 c.tcp) (.string F) (.int .i64 c.comp) (.int .u32 (Pr : Int)) (.string c.addr) (.int .i64 c.port) (.slice rp rn rc) (.slice none 0 0)
      clear c0 e0 f0 c1 e1 f1 c2 e2 f2 c3 e3 f3 c4 e4 f4 c5 e5 f5 c6 e6 f6 c7 e7 f7 c8 e8 f8 c9 e9 f9 hrB5 hrE5 hb5
      generalize ((((((((((w5.setCell ⟨w.heap.size, 0, none⟩ (.int .i64 c.typ)).setCell ⟨w.heap.size, 1, none⟩ (.int .i64 c.net)).setCell ⟨w.heap.size, 2, none⟩ (.int .i64 c.tcp)).setCell ⟨w.heap.size, 3, none⟩ (.string F)).setCell ⟨w.heap.size, 4, none⟩ (.int .i64 c.comp)).setCell ⟨w.heap.size, 5, none⟩ (.int .u32 (Pr : Int))).setCell ⟨w.heap.size, 6, none⟩ (.string c.addr)).setCell ⟨w.heap.size, 7, none⟩ (.int .i64 c.port)).setCell ⟨w.heap.size, 8, none⟩ (.slice rp rn rc)).setCell ⟨w.heap.size, 9, none⟩ (.slice none 0 0)) = Z at hZ hBZ ⊢
      have z0 : Z.cell? ⟨w.heap.size, 0, none⟩ = some (.int .i64 c.typ) := hZ.cell 0
      have z1 : Z.cell? ⟨w.heap.size, 1, none⟩ = some (.int .i64 c.net) := hZ.cell 1
      have z2 : Z.cell? ⟨w.heap.size, 2, none⟩ = some (.int .i64 c.tcp) := hZ.cell 2
      have z3 : Z.cell? ⟨w.heap.size, 3, none⟩ = some (.string F) := hZ.cell 3
      have z4 : Z.cell? ⟨w.heap.size, 4, none⟩ = some (.int .i64 c.comp) := hZ.cell 4
      have z5 : Z.cell? ⟨w.heap.size, 5, none⟩ = some (.int .u32 (Pr : Int)) := hZ.cell 5
      have z6 : Z.cell? ⟨w.heap.size, 6, none⟩ = some (.string c.addr) := hZ.cell 6
      have z7 : Z.cell? ⟨w.heap.size, 7, none⟩ = some (.int .i64 c.port) := hZ.cell 7
      have z8 : Z.cell? ⟨w.heap.size, 8, none⟩ = some (.slice rp rn rc) := hZ.cell 8
      have z9 : Z.cell? ⟨w.heap.size, 9, none⟩ = some (.slice none 0 0) := hZ.cell 9
      refine bodyPost_ret (v := .agg #[.int .i64 c.typ, .int .i64 c.net, .int .i64 c.tcp, .string F, .int .i64 c.comp, .int .u32 (Pr : Int), .string c.addr, .int .i64 c.port, .slice rp rn rc, .slice none 0 0]) ?h1 rfl ⟨rp, rn, rc, rfl, hBZ⟩
      case h1 => simp [results, Tryz.results42, go_sem, z0, z1, z2, z3, z4, z5, z6, z7, z8, z9]
    · have hd : (c.tcp == 0) = false := by simpa using ht
      refine (exts1 (h.below hbY hgl) (by omega) ht3 hx).mono ?_
      rintro e w5 ⟨bx, rfl, hgx, hxr, hb⟩
      have hrB5 := hrY.below hb hrY.lt
      have hrE5 := hrE.below hb hrE.lt
      have hb5 := hbY.trans (hb.mono hbY.size)
      have x0 : w5.cell? ⟨bx, 0, none⟩ = some (.string ⟨#[116, 99, 112, 116, 121, 112, 101]⟩) := hxr.cell 0
      have x1 : w5.cell? ⟨bx, 1, none⟩ = some (.string (tcpStr c.tcp)) := hxr.cell 1
      have hl5 := hrE5.lt
      clear hb hbY hrY hrE hxr
      generalize tcpStr c.tcp = t1 at x1
      have hb6 := below_al hb5 (Nat.le_refl _) (.cells #[.string ⟨#[116, 99, 112, 116, 121, 112, 101]⟩, .string t1] 115)
      have hbl5 := hrB5.lt
      have h6 := h.below hb6 hgl
      clear hb6
      go_wp2_with fail
      refine wp_loop_rounds 2 ?_
      rw [rounds_succ]
      go_wp2_with fail
      refine (gTcp h6).mono ?_
      rintro e w' ⟨rfl, rfl⟩
      go_wp2_with fail
      rw [rounds_succ]
      have c0 : w5.cell? ⟨b, 0, none⟩ = some (.int .i64 c.typ) := hrB5.cell 0
      have e0 : w5.cell? ⟨w.heap.size, 0, none⟩ = some (.int .i64 0) := hrE5.cell 0
      have f0 : w5.frozen? ⟨w.heap.size, 0, none⟩ = false := hrE5.free 0
      have c1 : w5.cell? ⟨b, 1, none⟩ = some (.int .i64 c.net) := hrB5.cell 1
      have e1 : w5.cell? ⟨w.heap.size, 1, none⟩ = some (.int .i64 0) := hrE5.cell 1
      have f1 : w5.frozen? ⟨w.heap.size, 1, none⟩ = false := hrE5.free 1
      have c2 : w5.cell? ⟨b, 2, none⟩ = some (.int .i64 c.tcp) := hrB5.cell 2
      have e2 : w5.cell? ⟨w.heap.size, 2, none⟩ = some (.int .i64 0) := hrE5.cell 2
      have f2 : w5.frozen? ⟨w.heap.size, 2, none⟩ = false := hrE5.free 2
      have c3 : w5.cell? ⟨b, 3, none⟩ = some (.string F) := hrB5.cell 3
      have e3 : w5.cell? ⟨w.heap.size, 3, none⟩ = some (.string ⟨#[]⟩) := hrE5.cell 3
      have f3 : w5.frozen? ⟨w.heap.size, 3, none⟩ = false := hrE5.free 3
      have c4 : w5.cell? ⟨b, 4, none⟩ = some (.int .i64 c.comp) := hrB5.cell 4
      have e4 : w5.cell? ⟨w.heap.size, 4, none⟩ = some (.int .i64 0) := hrE5.cell 4
      have f4 : w5.frozen? ⟨w.heap.size, 4, none⟩ = false := hrE5.free 4
      have c5 : w5.cell? ⟨b, 5, none⟩ = some (.int .u32 (Pr : Int)) := hrB5.cell 5
      have e5 : w5.cell? ⟨w.heap.size, 5, none⟩ = some (.int .u32 0) := hrE5.cell 5
      have f5 : w5.frozen? ⟨w.heap.size, 5, none⟩ = false := hrE5.free 5
      have c6 : w5.cell? ⟨b, 6, none⟩ = some (.string c.addr) := hrB5.cell 6
      have e6 : w5.cell? ⟨w.heap.size, 6, none⟩ = some (.string ⟨#[]⟩) := hrE5.cell 6
      have f6 : w5.frozen? ⟨w.heap.size, 6, none⟩ = false := hrE5.free 6
      have c7 : w5.cell? ⟨b, 7, none⟩ = some (.int .i64 c.port) := hrB5.cell 7
      have e7 : w5.cell? ⟨w.heap.size, 7, none⟩ = some (.int .i64 0) := hrE5.cell 7
      have f7 : w5.frozen? ⟨w.heap.size, 7, none⟩ = false := hrE5.free 7
      have c8 : w5.cell? ⟨b, 8, none⟩ = some (.slice rp rn rc) := hrB5.cell 8
      have e8 : w5.cell? ⟨w.heap.size, 8, none⟩ = some (.slice none 0 0) := hrE5.cell 8
      have f8 : w5.frozen? ⟨w.heap.size, 8, none⟩ = false := hrE5.free 8
      have c9 : w5.cell? ⟨b, 9, none⟩ = some (.slice none 0 0) := hrB5.cell 9
      have e9 : w5.cell? ⟨w.heap.size, 9, none⟩ = some (.slice none 0 0) := hrE5.cell 9
      have f9 : w5.frozen? ⟨w.heap.size, 9, none⟩ = false := hrE5.free 9
      go_wp2_with fail
      have hZ := (tenSet hrE5 (.int .i64 c.typ) (.int .i64 c.net) (.int .i64 c.tcp) (.string F) (.int .i64 c.comp) (.int .u32 (Pr : Int)) (.string c.addr) (.int .i64 c.port) (.slice rp rn rc) (.slice none 0 0)).alloc (.cells #[.string ⟨#[116, 99, 112, 116, 121, 112, 101]⟩, .string t1] 115)
      have hBZ := below_al (tenBelow hb5 (Nat.le_refl _) (.int .i64 c.typ) (.int .i64 c.net) (.int .i64 c.tcp) (.string F) (.int .i64 c.comp) (.int .u32 (Pr : Int)) (.string c.addr) (.int .i64 c.port) (.slice rp rn rc) (.slice none 0 0)) (Nat.le_refl _) (.cells #[.string ⟨#[116, 99, 112, 116, 121, 112, 101]⟩, .string t1] 115)
      clear c0 e0 f0 c1 e1 f1 c2 e2 f2 c3 e3 f3 c4 e4 f4 c5 e5 f5 c6 e6 f6 c7 e7 f7 c8 e8 f8 c9 e9 f9 hrB5 hrE5 hb5
      generalize (((((((((((w5.setCell ⟨w.heap.size, 0, none⟩ (.int .i64 c.typ)).setCell ⟨w.heap.size, 1, none⟩ (.int .i64 c.net)).setCell ⟨w.heap.size, 2, none⟩ (.int .i64 c.tcp)).setCell ⟨w.heap.size, 3, none⟩ (.string F)).setCell ⟨w.heap.size, 4, none⟩ (.int .i64 c.comp)).setCell ⟨w.heap.size, 5, none⟩ (.int .u32 (Pr : Int))).setCell ⟨w.heap.size, 6, none⟩ (.string c.addr)).setCell ⟨w.heap.size, 7, none⟩ (.int .i64 c.port)).setCell ⟨w.heap.size, 8, none⟩ (.slice rp rn rc)).setCell ⟨w.heap.size, 9, none⟩ (.slice none 0 0)).alloc (.cells #[.string ⟨#[116, 99, 112, 116, 121, 112, 101]⟩, .string t1] 115)) = Z at hZ hBZ ⊢
      have z0 : Z.cell? ⟨w.heap.size, 0, none⟩ = some (.int .i64 c.typ) := hZ.cell 0
      have z1 : Z.cell? ⟨w.heap.size, 1, none⟩ = some (.int .i64 c.net) := hZ.cell 1
      have z2 : Z.cell? ⟨w.heap.size, 2, none⟩ = some (.int .i64 c.tcp) := hZ.cell 2
      have z3 : Z.cell? ⟨w.heap.size, 3, none⟩ = some (.string F) := hZ.cell 3
      have z4 : Z.cell? ⟨w.heap.size, 4, none⟩ = some (.int .i64 c.comp) := hZ.cell 4
      have z5 : Z.cell? ⟨w.heap.size, 5, none⟩ = some (.int .u32 (Pr : Int)) := hZ.cell 5
      have z6 : Z.cell? ⟨w.heap.size, 6, none⟩ = some (.string c.addr) := hZ.cell 6
      have z7 : Z.cell? ⟨w.heap.size, 7, none⟩ = some (.int .i64 c.port) := hZ.cell 7
      have z8 : Z.cell? ⟨w.heap.size, 8, none⟩ = some (.slice rp rn rc) := hZ.cell 8
      have z9 : Z.cell? ⟨w.heap.size, 9, none⟩ = some (.slice none 0 0) := hZ.cell 9
      refine bodyPost_ret (v := .agg #[.int .i64 c.typ, .int .i64 c.net, .int .i64 c.tcp, .string F, .int .i64 c.comp, .int .u32 (Pr : Int), .string c.addr, .int .i64 c.port, .slice rp rn rc, .slice none 0 0]) ?h2 rfl ⟨rp, rn, rc, rfl, hBZ⟩
      case h2 => simp [results, Tryz.results42, go_sem, z0, z1, z2, z3, z4, z5, z6, z7, z8, z9]
  · have q0' := (hbB.cell (p := ⟨gr, 0, none⟩) (World.block_lt_of_cell? _ _ q0)).trans q0
    have q1' := (hbB.cell (p := ⟨gr, 1, none⟩) (World.block_lt_of_cell? _ _ q1)).trans q1
    have c8 : X.cell? ⟨b, 8, none⟩ = some (.slice none 0 0) := hrB.cell 8
    have f8 := hrB.free 8
    have hlX := hrB.lt
    clear q0 q1
    go_wp2_with fail
    go_region
    go_wp2_with fail
    obtain ⟨rp, rn, rc, hrp⟩ : ∃ (rp : Option Addr) (rn rc : Nat), (Value.slice (some ⟨X.heap.size, 0, none⟩) 1 1) = .slice rp rn rc := ⟨_, _, _, rfl⟩
    have hbY := below_drewN (below_al (below_st hbB hbb 8 (.slice (some ⟨X.heap.size, 0, none⟩) 1 1)) (Nat.le_refl _) (.cells #[.string ra, .int .i64 (rq : Int)] 59)) 1
    have hrY : Row (((X.setCell ⟨b, 8, none⟩ (.slice (some ⟨X.heap.size, 0, none⟩) 1 1)).alloc (.cells #[.string ra, .int .i64 (rq : Int)] 59)).drewN 1) b 26 #[.int .i64 c.typ, .int .i64 c.net, .int .i64 c.tcp, .string F, .int .i64 c.comp, .int .u32 (Pr : Int), .string c.addr, .int .i64 c.port, .slice rp rn rc, .slice none 0 0] := by rw [← hrp]; exact ((hrB.set 8 (.slice (some ⟨X.heap.size, 0, none⟩) 1 1)).alloc _).drewN 1
    have hrE := ((hrC.far (p := ⟨b, 8, none⟩) hne (.slice (some ⟨X.heap.size, 0, none⟩) 1 1)).alloc (.cells #[.string ra, .int .i64 (rq : Int)] 59)).drewN 1
    change Calls _ _ _ (((X.setCell ⟨b, 8, none⟩ (.slice (some ⟨X.heap.size, 0, none⟩) 1 1)).alloc (.cells #[.string ra, .int .i64 (rq : Int)] 59)).drewN 1) _
    rw [hrp] at hbY hrY hrE
    rw [hrp]
    generalize (((X.setCell ⟨b, 8, none⟩ (.slice rp rn rc)).alloc (.cells #[.string ra, .int .i64 (rq : Int)] 59)).drewN 1) = Y at hbY hrY hrE ⊢
    clear q0' q1' c8 f8 hrB hrC hbB hrp
    by_cases ht : c.tcp = 0
    · refine (exts0 (h.below hbY hgl) ht hx).mono ?_
      rintro e w5 ⟨px, nx, rfl, hb⟩
      clear ht
      have hrB5 := hrY.below hb hrY.lt
      have hrE5 := hrE.below hb hrE.lt
      have hb5 := hbY.trans (hb.mono hbY.size)
      clear hb hbY hrY hrE
      go_wp2_with fail
      have c0 : w5.cell? ⟨b, 0, none⟩ = some (.int .i64 c.typ) := hrB5.cell 0
      have e0 : w5.cell? ⟨w.heap.size, 0, none⟩ = some (.int .i64 0) := hrE5.cell 0
      have f0 : w5.frozen? ⟨w.heap.size, 0, none⟩ = false := hrE5.free 0
      have c1 : w5.cell? ⟨b, 1, none⟩ = some (.int .i64 c.net) := hrB5.cell 1
      have e1 : w5.cell? ⟨w.heap.size, 1, none⟩ = some (.int .i64 0) := hrE5.cell 1
      have f1 : w5.frozen? ⟨w.heap.size, 1, none⟩ = false := hrE5.free 1
      have c2 : w5.cell? ⟨b, 2, none⟩ = some (.int .i64 c.tcp) := hrB5.cell 2
      have e2 : w5.cell? ⟨w.heap.size, 2, none⟩ = some (.int .i64 0) := hrE5.cell 2
      have f2 : w5.frozen? ⟨w.heap.size, 2, none⟩ = false := hrE5.free 2
      have c3 : w5.cell? ⟨b, 3, none⟩ = some (.string F) := hrB5.cell 3
      have e3 : w5.cell? ⟨w.heap.size, 3, none⟩ = some (.string ⟨#[]⟩) := hrE5.cell 3
      have f3 : w5.frozen? ⟨w.heap.size, 3, none⟩ = false := hrE5.free 3
      have c4 : w5.cell? ⟨b, 4, none⟩ = some (.int .i64 c.comp) := hrB5.cell 4
      have e4 : w5.cell? ⟨w.heap.size, 4, none⟩ = some (.int .i64 0) := hrE5.cell 4
      have f4 : w5.frozen? ⟨w.heap.size, 4, none⟩ = false := hrE5.free 4
      have c5 : w5.cell? ⟨b, 5, none⟩ = some (.int .u32 (Pr : Int)) := hrB5.cell 5
      have e5 : w5.cell? ⟨w.heap.size, 5, none⟩ = some (.int .u32 0) := hrE5.cell 5
      have f5 : w5.frozen? ⟨w.heap.size, 5, none⟩ = false := hrE5.free 5
      have c6 : w5.cell? ⟨b, 6, none⟩ = some (.string c.addr) := hrB5.cell 6
      have e6 : w5.cell? ⟨w.heap.size, 6, none⟩ = some (.string ⟨#[]⟩) := hrE5.cell 6
      have f6 : w5.frozen? ⟨w.heap.size, 6, none⟩ = false := hrE5.free 6
      have c7 : w5.cell? ⟨b, 7, none⟩ = some (.int .i64 c.port) := hrB5.cell 7
      have e7 : w5.cell? ⟨w.heap.size, 7, none⟩ = some (.int .i64 0) := hrE5.cell 7
      have f7 : w5.frozen? ⟨w.heap.size, 7, none⟩ = false := hrE5.free 7
      have c8 : w5.cell? ⟨b, 8, none⟩ = some (.slice rp rn rc) := hrB5.cell 8
      have e8 : w5.cell? ⟨w.heap.size, 8, none⟩ = some (.slice none 0 0) := hrE5.cell 8
      have f8 : w5.frozen? ⟨w.heap.size, 8, none⟩ = false := hrE5.free 8
      have c9 : w5.cell? ⟨b, 9, none⟩ = some (.slice none 0 0) := hrB5.cell 9
      have e9 : w5.cell? ⟨w.heap.size, 9, none⟩ = some (.slice none 0 0) := hrE5.cell 9
      have f9 : w5.frozen? ⟨w.heap.size, 9, none⟩ = false := hrE5.free 9
      refine wp_loop_rounds 1 ?_
      rw [rounds_succ]
      go_wp2_with fail
      have hZ := tenSet hrE5 (.int .i64 c.typ) (.int .i64 c.net) (.int .i64 c.tcp) (.string F) (.int .i64 c.comp) (.int .u32 (Pr : Int)) (.string c.addr) (.int .i64 c.port) (.slice rp rn rc) (.slice none 0 0)
      have hBZ := tenBelow hb5 (Nat.le_refl _) (.int .i64 c.typ) (.int .i64 c.net) (.int .i64 c.tcp) (.string F) (.int .i64 c.comp) (.int .u32 (Pr : Int)) (.string c.addr) (.int .i64 c.port) (.slice rp rn rc) (.slice none 0 0)
      clear c0 e0 f0 c1 e1 f1 c2 e2 f2 c3 e3 f3 c4 e4 f4 c5 e5 f5 c6 e6 f6 c7 e7 f7 c8 e8 f8 c9 e9 f9 hrB5 hrE5 hb5
      generalize ((((((((((w5.setCell ⟨w.heap.size, 0, none⟩ (.int .i64 c.typ)).setCell ⟨w.heap.size, 1, none⟩ (.int .i64 c.net)).setCell ⟨w.heap.size, 2, none⟩ (.int .i64 c.tcp)).setCell ⟨w.heap.size, 3, none⟩ (.string F)).setCell ⟨w.heap.size, 4, none⟩ (.int .i64 c.comp)).setCell ⟨w.heap.size, 5, none⟩ (.int .u32 (Pr : Int))).setCell ⟨w.heap.size, 6, none⟩ (.string c.addr)).setCell ⟨w.heap.size, 7, none⟩ (.int .i64 c.port)).setCell ⟨w.heap.size, 8, none⟩ (.slice rp rn rc)).setCell ⟨w.heap.size, 9, none⟩ (.slice none 0 0)) = Z at hZ hBZ ⊢
      have z0 : Z.cell? ⟨w.heap.size, 0, none⟩ = some (.int .i64 c.typ) := hZ.cell 0
      have z1 : Z.cell? ⟨w.heap.size, 1, none⟩ = some (.int .i64 c.net) := hZ.cell 1
      have z2 : Z.cell? ⟨w.heap.size, 2, none⟩ = some (.int .i64 c.tcp) := hZ.cell 2
      have z3 : Z.cell? ⟨w.heap.size, 3, none⟩ = some (.string F) := hZ.cell 3
      have z4 : Z.cell? ⟨w.heap.size, 4, none⟩ = some (.int .i64 c.comp) := hZ.cell 4
      have z5 : Z.cell? ⟨w.heap.size, 5, none⟩ = some (.int .u32 (Pr : Int)) := hZ.cell 5
      have z6 : Z.cell? ⟨w.heap.size, 6, none⟩ = some (.string c.addr) := hZ.cell 6
      have z7 : Z.cell? ⟨w.heap.size, 7, none⟩ = some (.int .i64 c.port) := hZ.cell 7
      have z8 : Z.cell? ⟨w.heap.size, 8, none⟩ = some (.slice rp rn rc) := hZ.cell 8
      have z9 : Z.cell? ⟨w.heap.size, 9, none⟩ = some (.slice none 0 0) := hZ.cell 9
      refine bodyPost_ret (v := .agg #[.int .i64 c.typ, .int .i64 c.net, .int .i64 c.tcp, .string F, .int .i64 c.comp, .int .u32 (Pr : Int), .string c.addr, .int .i64 c.port, .slice rp rn rc, .slice none 0 0]) ?h3 rfl ⟨rp, rn, rc, rfl, hBZ⟩
      case h3 => simp [results, Tryz.results42, go_sem, z0, z1, z2, z3, z4, z5, z6, z7, z8, z9]
    · have hd : (c.tcp == 0) = false := by simpa using ht
      refine (exts1 (h.below hbY hgl) (by omega) ht3 hx).mono ?_
      rintro e w5 ⟨bx, rfl, hgx, hxr, hb⟩
      have hrB5 := hrY.below hb hrY.lt
      have hrE5 := hrE.below hb hrE.lt
      have hb5 := hbY.trans (hb.mono hbY.size)
      have x0 : w5.cell? ⟨bx, 0, none⟩ = some (.string ⟨#[116, 99, 112, 116, 121, 112, 101]⟩) := hxr.cell 0
      have x1 : w5.cell? ⟨bx, 1, none⟩ = some (.string (tcpStr c.tcp)) := hxr.cell 1
      have hl5 := hrE5.lt
      clear hb hbY hrY hrE hxr
      generalize tcpStr c.tcp = t1 at x1
      have hb6 := below_al hb5 (Nat.le_refl _) (.cells #[.string ⟨#[116, 99, 112, 116, 121, 112, 101]⟩, .string t1] 115)
      have hbl5 := hrB5.lt
      have h6 := h.below hb6 hgl
      clear hb6
      go_wp2_with fail
      refine wp_loop_rounds 2 ?_
      rw [rounds_succ]
      go_wp2_with fail
      refine (gTcp h6).mono ?_
      rintro e w' ⟨rfl, rfl⟩
      go_wp2_with fail
      rw [rounds_succ]
      have c0 : w5.cell? ⟨b, 0, none⟩ = some (.int .i64 c.typ) := hrB5.cell 0
      have e0 : w5.cell? ⟨w.heap.size, 0, none⟩ = some (.int .i64 0) := hrE5.cell 0
      have f0 : w5.frozen? ⟨w.heap.size, 0, none⟩ = false := hrE5.free 0
      have c1 : w5.cell? ⟨b, 1, none⟩ = some (.int .i64 c.net) := hrB5.cell 1
      have e1 : w5.cell? ⟨w.heap.size, 1, none⟩ = some (.int .i64 0) := hrE5.cell 1
      have f1 : w5.frozen? ⟨w.heap.size, 1, none⟩ = false := hrE5.free 1
      have c2 : w5.cell? ⟨b, 2, none⟩ = some (.int .i64 c.tcp) := hrB5.cell 2
      have e2 : w5.cell? ⟨w.heap.size, 2, none⟩ = some (.int .i64 0) := hrE5.cell 2
      have f2 : w5.frozen? ⟨w.heap.size, 2, none⟩ = false := hrE5.free 2
      have c3 : w5.cell? ⟨b, 3, none⟩ = some (.string F) := hrB5.cell 3
      have e3 : w5.cell? ⟨w.heap.size, 3, none⟩ = some (.string ⟨#[]⟩) := hrE5.cell 3
      have f3 : w5.frozen? ⟨w.heap.size, 3, none⟩ = false := hrE5.free 3
      have c4 : w5.cell? ⟨b, 4, none⟩ = some (.int .i64 c.comp) := hrB5.cell 4
      have e4 : w5.cell? ⟨w.heap.size, 4, none⟩ = some (.int .i64 0) := hrE5.cell 4
      have f4 : w5.frozen? ⟨w.heap.size, 4, none⟩ = false := hrE5.free 4
      have c5 : w5.cell? ⟨b, 5, none⟩ = some (.int .u32 (Pr : Int)) := hrB5.cell 5
      have e5 : w5.cell? ⟨w.heap.size, 5, none⟩ = some (.int .u32 0) := hrE5.cell 5
      have f5 : w5.frozen? ⟨w.heap.size, 5, none⟩ = false := hrE5.free 5
      have c6 : w5.cell? ⟨b, 6, none⟩ = some (.string c.addr) := hrB5.cell 6
      have e6 : w5.cell? ⟨w.heap.size, 6, none⟩ = some (.string ⟨#[]⟩) := hrE5.cell 6
      have f6 : w5.frozen? ⟨w.heap.size, 6, none⟩ = false := hrE5.free 6
      have c7 : w5.cell? ⟨b, 7, none⟩ = some (.int .i64 c.port) := hrB5.cell 7
      have e7 : w5.cell? ⟨w.heap.size, 7, none⟩ = some (.int .i64 0) := hrE5.cell 7
      have f7 : w5.frozen? ⟨w.heap.size, 7, none⟩ = false := hrE5.free 7
      have c8 : w5.cell? ⟨b, 8, none⟩ = some (.slice rp rn rc) := hrB5.cell 8
      have e8 : w5.cell? ⟨w.heap.size, 8, none⟩ = some (.slice none 0 0) := hrE5.cell 8
      have f8 : w5.frozen? ⟨w.heap.size, 8, none⟩ = false := hrE5.free 8
      have c9 : w5.cell? ⟨b, 9, none⟩ = some (.slice none 0 0) := hrB5.cell 9
      have e9 : w5.cell? ⟨w.heap.size, 9, none⟩ = some (.slice none 0 0) := hrE5.cell 9
      have f9 : w5.frozen? ⟨w.heap.size, 9, none⟩ = false := hrE5.free 9
      go_wp2_with fail
      have hZ := (tenSet hrE5 (.int .i64 c.typ) (.int .i64 c.net) (.int .i64 c.tcp) (.string F) (.int .i64 c.comp) (.int .u32 (Pr : Int)) (.string c.addr) (.int .i64 c.port) (.slice rp rn rc) (.slice none 0 0)).alloc (.cells #[.string ⟨#[116, 99, 112, 116, 121, 112, 101]⟩, .string t1] 115)
      have hBZ := below_al (tenBelow hb5 (Nat.le_refl _) (.int .i64 c.typ) (.int .i64 c.net) (.int .i64 c.tcp) (.string F) (.int .i64 c.comp) (.int .u32 (Pr : Int)) (.string c.addr) (.int .i64 c.port) (.slice rp rn rc) (.slice none 0 0)) (Nat.le_refl _) (.cells #[.string ⟨#[116, 99, 112, 116, 121, 112, 101]⟩, .string t1] 115)
      clear c0 e0 f0 c1 e1 f1 c2 e2 f2 c3 e3 f3 c4 e4 f4 c5 e5 f5 c6 e6 f6 c7 e7 f7 c8 e8 f8 c9 e9 f9 hrB5 hrE5 hb5
      generalize (((((((((((w5.setCell ⟨w.heap.size, 0, none⟩ (.int .i64 c.typ)).setCell ⟨w.heap.size, 1, none⟩ (.int .i64 c.net)).setCell ⟨w.heap.size, 2, none⟩ (.int .i64 c.tcp)).setCell ⟨w.heap.size, 3, none⟩ (.string F)).setCell ⟨w.heap.size, 4, none⟩ (.int .i64 c.comp)).setCell ⟨w.heap.size, 5, none⟩ (.int .u32 (Pr : Int))).setCell ⟨w.heap.size, 6, none⟩ (.string c.addr)).setCell ⟨w.heap.size, 7, none⟩ (.int .i64 c.port)).setCell ⟨w.heap.size, 8, none⟩ (.slice rp rn rc)).setCell ⟨w.heap.size, 9, none⟩ (.slice none 0 0)).alloc (.cells #[.string ⟨#[116, 99, 112, 116, 121, 112, 101]⟩, .string t1] 115)) = Z at hZ hBZ ⊢
      have z0 : Z.cell? ⟨w.heap.size, 0, none⟩ = some (.int .i64 c.typ) := hZ.cell 0
      have z1 : Z.cell? ⟨w.heap.size, 1, none⟩ = some (.int .i64 c.net) := hZ.cell 1
      have z2 : Z.cell? ⟨w.heap.size, 2, none⟩ = some (.int .i64 c.tcp) := hZ.cell 2
      have z3 : Z.cell? ⟨w.heap.size, 3, none⟩ = some (.string F) := hZ.cell 3
      have z4 : Z.cell? ⟨w.heap.size, 4, none⟩ = some (.int .i64 c.comp) := hZ.cell 4
      have z5 : Z.cell? ⟨w.heap.size, 5, none⟩ = some (.int .u32 (Pr : Int)) := hZ.cell 5
      have z6 : Z.cell? ⟨w.heap.size, 6, none⟩ = some (.string c.addr) := hZ.cell 6
      have z7 : Z.cell? ⟨w.heap.size, 7, none⟩ = some (.int .i64 c.port) := hZ.cell 7
      have z8 : Z.cell? ⟨w.heap.size, 8, none⟩ = some (.slice rp rn rc) := hZ.cell 8
      have z9 : Z.cell? ⟨w.heap.size, 9, none⟩ = some (.slice none 0 0) := hZ.cell 9
      refine bodyPost_ret (v := .agg #[.int .i64 c.typ, .int .i64 c.net, .int .i64 c.tcp, .string F, .int .i64 c.comp, .int .u32 (Pr : Int), .string c.addr, .int .i64 c.port, .slice rp rn rc, .slice none 0 0]) ?h4 rfl ⟨rp, rn, rc, rfl, hBZ⟩
      case h4 => simp [results, Tryz.results42, go_sem, z0, z1, z2, z3, z4, z5, z6, z7, z8, z9]
end Go.Proofs.YtmfdbcfpcifmcaaGreatDoor
