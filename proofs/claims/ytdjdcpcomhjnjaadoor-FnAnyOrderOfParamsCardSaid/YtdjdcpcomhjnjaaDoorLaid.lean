/- The listed variables of netip: what the rows' premise gives. Conditions: none. -/
import Derived.Test.YtdjdcpcomhjnjaaDoorRows
import Derived.Test.YtdjdcpcomhjnjaaDoorNipA
import Derived.Test.YtdjdcpcomhjnjaaDoorFrame
import Derived.LaidMore
import Derived.Lay
import Derived.Stop.Joined
namespace Go.Proofs.YtdjdcpcomhjnjaaDoor
open Go.ChangeShapes Go.WideShapes Go.ChangeAt Go.RowKit

/-- A handle that is told: the address of what it holds, among the places. -/
theorem handle_told {W : World} {fuel : Nat} {cs : List Value} {d : DataW Unit} {p : List MemPlace} (h : DataW.trod (fun _ => ()) Tryd.prog W 0 (fun _ => true) false fuel 69 cs = some (.agg [.ptr d], p)) :
    ∃ a, cs = [.pointer (some a)] ∧ MemPlace.cell a.block a.off ∈ p := by
  obtain ⟨xs, m, _, ex, hl, hn, hel⟩ := DataW.trod_struct Tryd.underlying69 h
  have h0 := hel 0 _ rfl
  have hc : Tryd.prog.cellsOf 69 = 1 := by kernel_rfl
  have hc2 : Tryd.prog.cellsOf 67 = 1 := by kernel_rfl
  rw [hc] at hl
  match xs, hn, ex, h0 with
  | [x0], _, ex, h0 =>
    simp only [List.map_cons, List.map_nil, List.flatMap_cons, List.flatMap_nil, List.append_nil, Prod.mk.injEq, DataW.agg.injEq, List.cons.injEq, and_true] at ex
    obtain ⟨e1, rfl⟩ := ex
    have h1 : DataW.trod (fun _ => ()) Tryd.prog W 0 (fun _ => true) false m 67 cs = some x0 := by
      have : (cs.drop 0).take (Tryd.prog.cellsOf 67) = cs := by rw [hc2, List.drop_zero, List.take_of_length_le (by omega)]
      rw [← this]
      exact h0
    rcases DataW.trod_pointer Tryd.underlying67 h1 with ⟨_, e⟩ | ⟨a, cs', y, k, _, rfl, rfl, _, _⟩
    · rw [e] at e1
      cases e1
    · refine ⟨a, rfl, ?_⟩
      have hk : 0 < Tryd.prog.cellsOf 129 := by
        have : Tryd.prog.cellsOf 129 = 2 := by kernel_rfl
        omega
      exact List.mem_append_left _ (MemPlace.mem_row.2 ⟨0, hk, rfl⟩)
theorem handle_nil {W : World} {fuel : Nat} {cs : List Value} {p : List MemPlace} (h : DataW.trod (fun _ => ()) Tryd.prog W 0 (fun _ => true) false fuel 69 cs = some (.agg [.nil], p)) :
    cs = [.pointer none] := by
  obtain ⟨xs, m, _, ex, hl, hn, hel⟩ := DataW.trod_struct Tryd.underlying69 h
  have h0 := hel 0 _ rfl
  have hc : Tryd.prog.cellsOf 69 = 1 := by kernel_rfl
  have hc2 : Tryd.prog.cellsOf 67 = 1 := by kernel_rfl
  rw [hc] at hl
  match xs, hn, ex, h0 with
  | [x0], _, ex, h0 =>
    simp only [List.map_cons, List.map_nil, List.flatMap_cons, List.flatMap_nil, List.append_nil, Prod.mk.injEq, DataW.agg.injEq, List.cons.injEq, and_true] at ex
    obtain ⟨e1, rfl⟩ := ex
    have h1 : DataW.trod (fun _ => ()) Tryd.prog W 0 (fun _ => true) false m 67 cs = some x0 := by
      have : (cs.drop 0).take (Tryd.prog.cellsOf 67) = cs := by rw [hc2, List.drop_zero, List.take_of_length_le (by omega)]
      rw [← this]
      exact h0
    rcases DataW.trod_pointer Tryd.underlying67 h1 with ⟨h, _⟩ | ⟨a, cs', y, k, _, rfl, rfl, _, _⟩
    · exact h
    · cases e1
/-- The listed variables. -/
abbrev laid3 : List (String × DataW Unit) := [("net/netip.z4", Rows.laid_net_netip_z4), ("net/netip.z6noz", Rows.laid_net_netip_z6noz), ("net/netip.z0", Rows.laid_net_netip_z0)]
theorem gZ0 : Tryd.prog.globalNamed "net/netip.z0" = some 0 := by kernel_rfl
theorem gZ4 : Tryd.prog.globalNamed "net/netip.z4" = some 1 := by kernel_rfl
theorem gZ6 : Tryd.prog.globalNamed "net/netip.z6noz" = some 2 := by kernel_rfl
theorem tZ0 : (Tryd.prog.globals[0]?).map (·.type) = some 69 := by kernel_rfl
theorem tZ4 : (Tryd.prog.globals[1]?).map (·.type) = some 69 := by kernel_rfl
theorem tZ6 : (Tryd.prog.globals[2]?).map (·.type) = some 69 := by kernel_rfl
theorem var_one {W : World} {n : String} {g : Nat} {cs : Array Value} {v : Value} (hg : Tryd.prog.globalNamed n = some g) (hv : W.var? Tryd.prog n = some cs) (h : cs.toList = [v]) : W.cell? ⟨g, 0, none⟩ = some v := by
  rw [World.var?_cell hg hv 0, ← Array.getElem?_toList, h]
  rfl
/-- What the premise gives. -/
theorem of_laid {W : World} (h : laidMetH Tryd.prog laid3 W) : ∃ a4 a6, Gl W a4 a6 := by
  rw [MakeChecks.laidMetH_plain _ _ _ (by kernel_rfl)] at h
  obtain ⟨ps, ⟨g4, t4, cs4, f4, p4, q4, hg4, ht4, hv4, hd4, ⟨g6, t6, cs6, f6, p6, q6, hg6, ht6, hv6, hd6, ⟨g0, t0, cs0, f0, p0, q0, hg0, ht0, hv0, hd0, hq0, rfl⟩, rfl⟩, rfl⟩, hnd, hpl⟩ := h
  obtain rfl := Option.some.inj (gZ4.symm.trans hg4)
  obtain rfl := Option.some.inj (gZ6.symm.trans hg6)
  obtain rfl := Option.some.inj (gZ0.symm.trans hg0)
  obtain rfl := Option.some.inj (tZ4.symm.trans ht4)
  obtain rfl := Option.some.inj (tZ6.symm.trans ht6)
  obtain rfl := Option.some.inj (tZ0.symm.trans ht0)
  obtain ⟨a4, e4, m4⟩ := handle_told hd4
  obtain ⟨a6, e6, m6⟩ := handle_told hd6
  have e0 := handle_nil hd0
  have c4 := var_one hg4 hv4 e4
  have c6 := var_one hg6 hv6 e6
  have c0 := var_one hg0 hv0 e0
  refine ⟨a4, a6, c0, c4, c6, ?_, (hpl a4.block a4.off (by simp [m4])).1, (hpl a6.block a6.off (by simp [m6])).1, ?_⟩
  · rintro rfl
    rw [List.append_assoc, List.append_assoc] at hnd
    have h1 := (List.nodup_append.1 hnd).2.1
    have h2 := (List.nodup_append.1 h1).2.2 (MemPlace.cell a4.block a4.off) m4 (MemPlace.cell a4.block a4.off) (by simp [m6])
    exact h2 rfl
  · have l4 := World.block_lt_of_cell? _ _ c4
    have l6 := World.block_lt_of_cell? _ _ c6
    have l0 := World.block_lt_of_cell? _ _ c0
    simp only at l4 l6 l0
    omega
end Go.Proofs.YtdjdcpcomhjnjaaDoor
